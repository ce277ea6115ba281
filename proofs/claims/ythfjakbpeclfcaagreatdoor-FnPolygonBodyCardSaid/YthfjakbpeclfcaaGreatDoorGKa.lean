/-
  The reference's small functions: letters, kinds, tags.
  The reference's upper and padded.
-/
import Derived.Test.YthfjakbpeclfcaaGreatDoorGLb
import Derived.Laws.IdiomStrings
import Derived.Lib.ConvBytes
namespace Go.Proofs.YthfjakbpeclfcaaGreatDoor
open Go.RowKit Go

set_option maxHeartbeats 1000000 in
set_option maxRecDepth 100000 in
theorem let_any (c : UInt8) (w : World) : Calls Tryz.prog 29 #[.int .u8 c.toNat] w fun e w' => e = .returned (.bool (letB c)) ∧ w' = w := by
  have hd : letB c = ((decide (97 ≤ c.toNat) && decide (c.toNat ≤ 122)) || (decide (65 ≤ c.toNat) && decide (c.toNat ≤ 90))) := rfl
  have HD := Lib.hid hd
  clear hd
  by_cases h1 : 97 ≤ c.toNat
  · have i1 : (97 : Int) ≤ c.toNat := by omega
    by_cases h2 : c.toNat ≤ 122
    · have i2 : (c.toNat : Int) ≤ 122 := by omega
      have HR : Hid (letB c = true) := Lib.hid (by rw [HD.out]; simp [h1, h2])
      clear h1 h2
      go_enter Tryz.func29, Tryz.ntmps29
      go_wp2
      go_ret
      exact ⟨by rw [HR.out]; rfl, rfl⟩
    · have i2 : ¬ (c.toNat : Int) ≤ 122 := by omega
      have i3 : (65 : Int) ≤ c.toNat := by omega
      have i4 : ¬ (c.toNat : Int) ≤ 90 := by omega
      have HR : Hid (letB c = false) := Lib.hid (by rw [HD.out]; simp [h2]; omega)
      clear h1 h2
      go_enter Tryz.func29, Tryz.ntmps29
      go_wp2
      go_ret
      exact ⟨by rw [HR.out]; rfl, rfl⟩
  · have i1 : ¬ (97 : Int) ≤ c.toNat := by omega
    by_cases h3 : 65 ≤ c.toNat
    · have i3 : (65 : Int) ≤ c.toNat := by omega
      by_cases h4 : c.toNat ≤ 90
      · have i4 : (c.toNat : Int) ≤ 90 := by omega
        have HR : Hid (letB c = true) := Lib.hid (by rw [HD.out]; simp [h3, h4])
        clear h1 h3 h4
        go_enter Tryz.func29, Tryz.ntmps29
        go_wp2
        go_ret
        exact ⟨by rw [HR.out]; rfl, rfl⟩
      · have i4 : ¬ (c.toNat : Int) ≤ 90 := by omega
        have HR : Hid (letB c = false) := Lib.hid (by rw [HD.out]; simp [h1, h4])
        clear h1 h3 h4
        go_enter Tryz.func29, Tryz.ntmps29
        go_wp2
        go_ret
        exact ⟨by rw [HR.out]; rfl, rfl⟩
    · have i3 : ¬ (65 : Int) ≤ c.toNat := by omega
      have HR : Hid (letB c = false) := Lib.hid (by rw [HD.out]; simp [h1, h3])
      clear h1 h3
      go_enter Tryz.func29, Tryz.ntmps29
      go_wp2
      go_ret
      exact ⟨by rw [HR.out]; rfl, rfl⟩
theorem leaf3 (w : World) : Calls Tryz.prog 31 #[.int .i64 3] w fun e w' => e = .returned (.bool false) ∧ w' = w := by
  go_enter Tryz.func31, Tryz.ntmps31
  go_wp2
  go_ret
  exact ⟨rfl, rfl⟩
theorem leaf2 (w : World) : Calls Tryz.prog 31 #[.int .i64 2] w fun e w' => e = .returned (.bool true) ∧ w' = w := by
  go_enter Tryz.func31, Tryz.ntmps31
  go_wp2
  go_ret
  exact ⟨rfl, rfl⟩
def wid (d : Nat) : Nat := if d = 0 then 2 else if d = 3 then 4 else 3
set_option maxRecDepth 100000 in
theorem wid_any (d : Nat) (hd : d < 4) (w : World) : Calls Tryz.prog 32 #[.int .i64 d] w fun e w' => e = .returned (.int .i64 (wid d)) ∧ w' = w := by
  have : d = 0 ∨ d = 1 ∨ d = 2 ∨ d = 3 := by omega
  rcases this with rfl | rfl | rfl | rfl
  all_goals
    go_enter Tryz.func32, Tryz.ntmps32
    go_wp2
    go_ret
    exact ⟨by kernel_rfl, rfl⟩
theorem kid3 (w : World) : Calls Tryz.prog 33 #[.int .i64 3] w fun e w' => e = .returned (.int .i64 2) ∧ w' = w := by
  go_enter Tryz.func33, Tryz.ntmps33
  go_wp2
  go_ret
  exact ⟨rfl, rfl⟩
def kn : Nat → ByteArray
  | 1 => ⟨#[80, 79, 73, 78, 84]⟩
  | 2 => ⟨#[76, 73, 78, 69, 83, 84, 82, 73, 78, 71]⟩
  | 3 => ⟨#[80, 79, 76, 89, 71, 79, 78]⟩
  | 4 => ⟨#[77, 85, 76, 84, 73, 80, 79, 73, 78, 84]⟩
  | 5 => ⟨#[77, 85, 76, 84, 73, 76, 73, 78, 69, 83, 84, 82, 73, 78, 71]⟩
  | 6 => ⟨#[77, 85, 76, 84, 73, 80, 79, 76, 89, 71, 79, 78]⟩
  | _ => ⟨#[71, 69, 79, 77, 69, 84, 82, 89, 67, 79, 76, 76, 69, 67, 84, 73, 79, 78]⟩
set_option maxRecDepth 100000 in
theorem kn_any (k : Nat) (hk : k < 7) (w : World) : Calls Tryz.prog 36 #[.int .i64 k] w fun e w' => e = .returned (.string (kn k)) ∧ w' = w := by
  have : k = 0 ∨ k = 1 ∨ k = 2 ∨ k = 3 ∨ k = 4 ∨ k = 5 ∨ k = 6 := by omega
  rcases this with rfl | rfl | rfl | rfl | rfl | rfl | rfl
  all_goals
    go_enter Tryz.func36, Tryz.ntmps36
    go_wp2
    go_ret
    exact ⟨rfl, rfl⟩
def dn : Nat → ByteArray
  | 1 => ⟨#[90]⟩
  | 2 => ⟨#[77]⟩
  | 3 => ⟨#[90, 77]⟩
  | _ => ByteArray.empty
set_option maxRecDepth 100000 in
theorem dn_any (k : Nat) (hk : k < 4) (w : World) : Calls Tryz.prog 38 #[.int .i64 k] w fun e w' => e = .returned (.string (dn k)) ∧ w' = w := by
  have : k = 0 ∨ k = 1 ∨ k = 2 ∨ k = 3 := by omega
  rcases this with rfl | rfl | rfl | rfl
  all_goals
    go_enter Tryz.func38, Tryz.ntmps38
    go_wp2
    go_ret
    exact ⟨rfl, rfl⟩
theorem pk3 (w : World) : Calls Tryz.prog 9 #[.int .i64 3] w fun e w' => e = .returned (.string (kn 3)) ∧ w' = w := by
  go_enter Tryz.func9, Tryz.ntmps9
  go_wp2
  go_ret
  exact ⟨rfl, rfl⟩
def tg : Nat → ByteArray
  | 1 => ⟨#[32, 90, 32]⟩
  | 2 => ⟨#[32, 77, 32]⟩
  | 3 => ⟨#[32, 90, 77, 32]⟩
  | _ => ByteArray.empty
set_option maxHeartbeats 1000000 in
set_option maxRecDepth 100000 in
theorem tg_any (d : Nat) (hd : d < 4) (w : World) : Calls Tryz.prog 10 #[.int .i64 d] w fun e w' => e = .returned (.string (tg d)) ∧ Below w.heap.size w w' := by
  have : d = 0 ∨ d = 1 ∨ d = 2 ∨ d = 3 := by omega
  rcases this with rfl | rfl | rfl | rfl
  all_goals
    go_enter Tryz.func10, Tryz.ntmps10
    go_wp2
    go_ret
    exact ⟨rfl, (Below.refl _ _).alloc (Nat.le_refl _) _⟩
theorem dimOf_any (d : Nat) (hd : d < 4) (w : World) : Calls Tryz.prog 13 #[.int .i64 d] w fun e w' => e = .returned (.int .u8 d) ∧ w' = w := by
  have : d = 0 ∨ d = 1 ∨ d = 2 ∨ d = 3 := by omega
  rcases this with rfl | rfl | rfl | rfl
  all_goals
    go_enter Tryz.func13, Tryz.ntmps13
    go_wp2
    go_ret
    exact ⟨rfl, rfl⟩
end Go.Proofs.YthfjakbpeclfcaaGreatDoor

namespace Go.Proofs.YthfjakbpeclfcaaGreatDoor
open Go.RowKit Go

def upB (c : UInt8) : UInt8 := if 97 ≤ c.toNat ∧ c.toNat ≤ 122 then c - 32 else c
def upS (s : ByteArray) : ByteArray := ⟨(s.data.toList.map upB).toArray⟩
theorem upB_let {c : UInt8} (h : 97 ≤ c.toNat ∧ c.toNat ≤ 122) : ((upB c).toNat : Int) = (c.toNat : Int) - 97 + 65 := by
  unfold upB
  rw [if_pos h, UInt8.toNat_sub]
  simp
  omega
theorem upB_no {c : UInt8} (h : ¬ (97 ≤ c.toNat ∧ c.toNat ≤ 122)) : upB c = c := if_neg h
/-- The row of a conversion: its bytes, and that they may be written. -/
structure UB (H n : Nat) (f : Nat → UInt8) (w : World) : Prop where
  c : ∀ j, j < n → w.cell? ⟨H, j, none⟩ = some (.int .u8 (f j).toNat)
  z : ∀ j, j < n → w.frozen? ⟨H, j, none⟩ = false
theorem UB.set {H n : Nat} {f : Nat → UInt8} {w : World} (h : UB H n f w) {i : Nat} (hi : i < n) (x : UInt8) : UB H n (fun j => if j = i then x else f j) (w.setCell ⟨H, i, none⟩ (.int .u8 x.toNat)) := by
  refine ⟨fun j hj => ?_, fun j hj => by rw [World.frozen?_setCell]; exact h.z j hj⟩
  by_cases e : j = i
  · subst e
    rw [World.cell?_setCell_same _ _ _ (h.c j hj), if_pos rfl]
  · rw [World.cell?_setCell_other _ _ _ _ (by intro h'; injection h' with _ h' _; exact e h'.symm), if_neg e]
    exact h.c j hj
set_option maxHeartbeats 2000000 in
set_option maxRecDepth 100000 in
theorem up_any (s : ByteArray) (w : World) (hsz : s.size ≤ 100000) : Calls Tryz.prog 27 #[.string s] w fun e w' => e = .returned (.string (upS s)) ∧ Below w.heap.size w w' := by
  obtain ⟨n, hn⟩ : ∃ n, n = s.size := ⟨_, rfl⟩
  have hcv := fun (w : World) => Lib.run_convert_string_bytes (P := Tryz.prog) w 9 85 5 s Tryz.underlying9 Tryz.underlying85 Tryz.underlying5
  have hub : UB w.heap.size n (fun j => s.data.toList.getD j 0) (Lib.bytesWorld w 5 s) := by
    refine ⟨fun j hj => Lib.bytesWorld_cell w 5 s j (by omega), fun j hj => ?_⟩
    unfold World.frozen?
    rw [Lib.bytesWorld_at_new]
    have h1 : s.size ≤ (Lib.bytesCells w 5 s).size := by
      unfold Lib.bytesCells
      rw [Array.size_append, Array.size_map]
      exact Nat.le_add_right _ _
    simp
    omega
  have hbel : Below w.heap.size w (Lib.bytesWorld w 5 s) := ⟨rfl, rfl, rfl, by rw [Lib.bytesWorld_size]; omega, fun k hk => Lib.bytesWorld_at_old w 5 s k hk⟩
  obtain ⟨cp, hcp⟩ : ∃ cp, cp = grownCap w s.size 0 5 := ⟨_, rfl⟩
  have hcw := hcv w
  rw [← hcp, ← hn] at hcw
  generalize Lib.bytesWorld w 5 s = w1 at *
  have HUB := Lib.hid hub
  have HBEL := Lib.hid hbel
  have HN := Lib.hid hn
  have hsz' : n ≤ 100000 := by omega
  clear hcv hub hbel hcp hn hsz
  go_enter Tryz.func27, Tryz.ntmps27
  go_wp2
  go_loopg [10] n (fun G s10 wr => ∃ i : Nat, s10 = .int .i64 i ∧ i + G = n ∧ UB w.heap.size n (fun j => if j < i then upB (s.data.toList.getD j 0) else s.data.toList.getD j 0) wr ∧ Below w.heap.size w wr)
  case atStart => exact ⟨0, rfl, by omega, by simpa using HUB.out, HBEL.out⟩
  case round =>
    obtain ⟨i, rfl, hi, hu, hb⟩ := hrel
    have HI := Lib.hid hi
    have HU := Lib.hid hu
    have HB := Lib.hid hb
    by_cases hlt : i < n
    · have hlt' : (i : Int) < n := by omega
      have hc := hu.c i hlt
      have hz := hu.z i hlt
      rw [if_neg (Nat.lt_irrefl i)] at hc
      generalize hcc : s.data.toList.getD i 0 = c at *
      have HCC := Lib.hid hcc
      clear hu hb hi hcc
      have hstep : ∀ x wr', upB c = x → UB w.heap.size n (fun j => if j = i then x else if j < i then upB (s.data.toList.getD j 0) else s.data.toList.getD j 0) wr' → UB w.heap.size n (fun j => if j < i + 1 then upB (s.data.toList.getD j 0) else s.data.toList.getD j 0) wr' := by
        intro x wr' hx h
        refine ⟨fun j hj => ?_, h.z⟩
        rw [h.c j hj]
        by_cases e : j = i
        · subst e
          rw [if_pos rfl, if_pos (by omega), HCC.out, hx]
        · rw [if_neg e]
          by_cases e2 : j < i
          · rw [if_pos e2, if_pos (by omega)]
          · rw [if_neg e2, if_neg (by omega)]
      have HS := Lib.hid hstep
      clear hstep
      by_cases hl : 97 ≤ c.toNat ∧ c.toNat ≤ 122
      · have h1 : (97 : Int) ≤ c.toNat := by omega
        have h2 : (c.toNat : Int) ≤ 122 := by omega
        have hup := upB_let hl
        have hw1 : IntKind.u8.wrap ((c.toNat : Int) - 97) = (c.toNat : Int) - 97 := by simp [IntKind.wrap, IntKind.signed, IntKind.bits]; omega
        have hw2 : IntKind.u8.wrap ((c.toNat : Int) - 97 + 65) = (c.toNat : Int) - 97 + 65 := by simp [IntKind.wrap, IntKind.signed, IntKind.bits]; omega
        have HUP := Lib.hid hup
        clear hl hup
        go_wp2
        go_roundg (gk - 1)
        case measure => have := HI.out; omega
        case rel =>
          refine ⟨i + 1, by go_num, by have := HI.out; omega, HS.out _ _ rfl ?_, HB.out.setCell (p := ⟨w.heap.size, i, none⟩) (Nat.le_refl _) _⟩
          have := HU.out.set hlt (upB c)
          rw [HUP.out] at this
          exact this
      · have hup : upB c = c := upB_no hl
        have HUP := Lib.hid hup
        have hsame : UB w.heap.size n (fun j => if j = i then c else if j < i then upB (s.data.toList.getD j 0) else s.data.toList.getD j 0) wr := by
          refine ⟨fun j hj => ?_, HU.out.z⟩
          by_cases e : j = i
          · subst e
            rw [if_pos rfl]
            exact hc
          · rw [if_neg e]
            exact HU.out.c j hj
        have HSM := Lib.hid hsame
        clear hsame hup
        by_cases h1 : 97 ≤ c.toNat
        · have h1' : (97 : Int) ≤ c.toNat := by omega
          have h2' : ¬ (c.toNat : Int) ≤ 122 := by omega
          clear hl h1
          go_wp2
          go_roundg (gk - 1)
          case measure => have := HI.out; omega
          case rel => exact ⟨i + 1, by go_num, by have := HI.out; omega, HS.out _ _ HUP.out HSM.out, HB.out⟩
        · have h1' : ¬ (97 : Int) ≤ c.toNat := by omega
          clear hl h1
          go_wp2
          go_roundg (gk - 1)
          case measure => have := HI.out; omega
          case rel => exact ⟨i + 1, by go_num, by have := HI.out; omega, HS.out _ _ HUP.out HSM.out, HB.out⟩
    · have hlt' : ¬ (i : Int) < n := by omega
      have hin : i = n := by omega
      subst hin
      have hlen : (s.data.toList.map upB).length = i := by rw [List.length_map, slen]; exact HN.out.symm
      have hback := run_convert_bytes_back (P := Tryz.prog) wr 85 9 5 ⟨w.heap.size, 0, none⟩ cp (s.data.toList.map upB) Tryz.underlying85 Tryz.underlying5 Tryz.underlying9 (by
        intro j hj
        have hj' : j < i := by rw [hlen] at hj; exact hj
        have hadd : (⟨w.heap.size, 0, none⟩ : Addr).add j = ⟨w.heap.size, j, none⟩ := by
          by_cases h0 : j = 0 <;> simp [Addr.add, h0]
        rw [hadd, hu.c j hj', if_pos hj']
        have hj2 : j < s.data.toList.length := by rw [List.length_map] at hj; exact hj
        rw [List.getElem_map, List.getD, List.getElem?_eq_getElem hj2]
        rfl)
      rw [hlen] at hback
      clear hu hb hi
      go_wp2
      go_ret
      exact ⟨rfl, HB.out⟩

/-- A 0 ahead of another digit: what is of use of 'padded'. -/
theorem pad_npad {S : ByteArray} (h : 1 < S.size → S.data.toList.headD 0 = 48 → dcnt (S.data.toList.drop 1) = 0) : NPad S.data.toList := by
  intro c d Q e hc hd'
  rw [e] at h
  have h1 : 1 < S.size := by rw [← slen, e]; simp
  have := h h1 (show c = 48 from UInt8.toNat_inj.1 hc)
  have h2 : dcnt (d :: Q) = dcnt Q + 1 := if_pos ((dgt_iff d).2 hd')
  simp [h2] at this
theorem len_pos' {D : List UInt8} (hne : D ≠ []) : 1 ≤ D.length := by
  cases D with
  | nil => exact absurd rfl hne
  | cons a D => simp
/-- Behind an e a decimal goes on. -/
def ERoom (S : ByteArray) : Prop := ∀ i, (hi : i < S.size) → S[i].toNat = 101 ∨ S[i].toNat = 69 → ∃ h1 : i + 1 < S.size, S[i + 1].toNat = 43 ∨ S[i + 1].toNat = 45 → i + 2 < S.size
theorem byte_app {S : ByteArray} {M R : List UInt8} {c : UInt8} (h : S.data.toList = M ++ c :: R) {i : Nat} (hi : i < S.size) (e : i = M.length) : S[i] = c := by
  subst e
  exact byte_at (by rw [h, List.getElem?_append_right (Nat.le_refl _), Nat.sub_self]; rfl) hi
theorem mt_noe {M : List UInt8} (h : Mt M) : ∀ c ∈ M, c.toNat ≠ 101 ∧ c.toNat ≠ 69 := by
  have hd : ∀ {A : List UInt8}, Dgs A → ∀ c ∈ A, c.toNat ≠ 101 ∧ c.toNat ≠ 69 := by
    intro A hA c hc
    have := hA c hc
    unfold isDg at this
    omega
  intro c hc
  cases h with
  | whole _ _ hA => exact hd hA c hc
  | dot A B _ hA hB =>
    rcases List.mem_append.1 hc with hc | hc
    · exact hd hA c hc
    · rcases List.mem_cons.1 hc with rfl | hc
      · decide
      · exact hd hB c hc
theorem split_at {α : Type} : ∀ (L M R : List α) (c : α) (i : Nat), L = M ++ R → L[i]? = some c → c ∈ M ∨ ∃ P, L.take i = M ++ P ∧ ∃ Q, R = P ++ c :: Q
  | L, [], R, c, i, h, hc => by
    right
    rw [List.nil_append] at h
    subst h
    obtain ⟨h1, h2⟩ := List.getElem?_eq_some_iff.1 hc
    refine ⟨L.take i, rfl, L.drop (i + 1), ?_⟩
    conv => lhs; rw [← List.take_append_drop i L, List.drop_eq_getElem_cons h1, h2]
  | L, a :: M, R, c, i, h, hc => by
    subst h
    cases i with
    | zero =>
      left
      simp at hc
      simp [hc]
    | succ i =>
      have hc' : (M ++ R)[i]? = some c := by simpa using hc
      rcases split_at (M ++ R) M R c i rfl hc' with h | ⟨P, h1, Q, h2⟩
      · left
        exact List.mem_cons_of_mem _ h
      · right
        exact ⟨P, by simp [h1], Q, h2⟩
theorem eroom {S : ByteArray} {M E : List UInt8} {x : Int} (h : S.data.toList = M ++ E) (hM : Mt M) (hE : ExpIs E x) : ERoom S := by
  intro i hi he
  have hb := sbyte hi
  generalize hc : S[i] = c at *
  have hdg : ∀ (D : List UInt8) (ec : UInt8), (∀ d ∈ D, isDg d) → ec ∈ D → ¬ (ec.toNat = 101 ∨ ec.toNat = 69) := by
    intro D ec hD hm
    have := hD ec hm
    unfold isDg at this
    omega
  rcases split_at _ _ _ c i h hb with hm | ⟨P, h1, Q, h2⟩
  · have := mt_noe hM c hm
    omega
  · have hlen : i = (M ++ P).length := by
      rw [← h1, List.length_take, slen]
      omega
    have hS : S.data.toList = (M ++ P) ++ c :: Q := by rw [h, h2]; simp
    have hsz : S.size = (M ++ P).length + Q.length + 1 := by rw [← slen, hS]; simp; omega
    have hnx : ∀ d Q', Q = d :: Q' → ∀ h1 : i + 1 < S.size, S[i + 1] = d := by
      intro d Q' e h3
      refine byte_app (M := M ++ P ++ [c]) (R := Q') ?_ h3 (by rw [hlen]; simp; omega)
      rw [hS, e]
      simp
    cases hE with
    | none => simp at h2
    | plain ec D hec hD hd' =>
      cases P with
      | nil =>
        injection h2 with _ h2
        subst h2
        cases D with
        | nil => exact absurd rfl hD
        | cons d D =>
          refine ⟨by simp at hsz; simp at hlen; omega, fun hs => ?_⟩
          rw [hnx d D rfl] at hs
          have := hd' d (by simp)
          unfold isDg at this
          omega
      | cons p P =>
        injection h2 with _ h2
        exact absurd he (hdg D c hd' (by rw [h2]; simp))
    | plus ec D hec hD hd' =>
      cases P with
      | nil =>
        injection h2 with _ h2
        subst h2
        have := len_pos' hD
        exact ⟨by simp at hsz hlen; omega, fun _ => by simp at hsz hlen; omega⟩
      | cons p P =>
        injection h2 with _ h2
        cases P with
        | nil =>
          injection h2 with h2 _
          rw [← h2] at he
          exact absurd he (by decide)
        | cons q P =>
          injection h2 with _ h2
          exact absurd he (hdg D c hd' (by rw [h2]; simp))
    | minus ec D hec hD hd' =>
      cases P with
      | nil =>
        injection h2 with _ h2
        subst h2
        have := len_pos' hD
        exact ⟨by simp at hsz hlen; omega, fun _ => by simp at hsz hlen; omega⟩
      | cons p P =>
        injection h2 with _ h2
        cases P with
        | nil =>
          injection h2 with h2 _
          rw [← h2] at he
          exact absurd he (by decide)
        | cons q P =>
          injection h2 with _ h2
          exact absurd he (hdg D c hd' (by rw [h2]; simp))
def padP (S : ByteArray) : Prop := 1 < S.size ∧ S.data.toList.headD 0 = 48 ∧ 0 < dcnt (S.data.toList.drop 1)
instance (S : ByteArray) : Decidable (padP S) := by unfold padP; exact inferInstance
theorem head_at {S : ByteArray} (h : 0 < S.size) : S.data.toList.headD 0 = S[0] := by
  have := drop_at h
  rw [List.drop_zero] at this
  rw [this]
  rfl
set_option maxHeartbeats 2000000 in
set_option maxRecDepth 100000 in
theorem pad_any (S : ByteArray) (w : World) (hsz : S.size ≤ 100000) (hE : ERoom S) :
    Calls Tryz.prog 28 #[.string S] w fun e w' => (∃ b, e = .returned (.bool b) ∧ (b = false → ¬ padP S)) ∧ w' = w := by
  have HE := Lib.hid hE
  have hsub := dcnt_sub w S 1 hsz
  have HSUB := Lib.hid hsub
  have hdl := dcnt_le (S.data.toList.drop 1)
  rw [List.length_drop, slen] at hdl
  have HDL := Lib.hid hdl
  clear hE hsub hdl
  go_enter Tryz.func28, Tryz.ntmps28
  go_upto_region 1 with fail
  go_cut [18] (fun s18 wx => wx = w ∧ s18 = .bool (decide (padP S)))
  case first =>
    by_cases h1 : 1 < S.size
    · have h1' : (1 : Int) < S.size := by omega
      have h0 : (0 : Int) < S.size := by omega
      have h0n : 0 < S.size := by omega
      have hh := head_at h0n
      by_cases h2 : S[0].toNat = 48
      · have h2' : ((S[0].toNat : Int) == 48) = true := by simp; omega
        have hres : decide (padP S) = decide (0 < dcnt (S.data.toList.drop 1)) := by
          refine decide_eq_decide.2 ⟨fun h => h.2.2, fun h => ⟨h1, ?_, h⟩⟩
          rw [hh]
          exact UInt8.toNat_inj.1 h2
        have HRES := Lib.hid hres
        have h1'' : (1 : Int) ≤ S.size := by omega
        have hc := HSUB.out
        have hd5 : (dcnt (S.data.toList.drop 1) : Int) ≤ 100000 := by have := HDL.out; omega
        generalize dcnt (S.data.toList.drop 1) = d at *
        clear hh h2 hres h1
        by_cases h3 : 0 < d
        · have h3' : (0 : Int) < d := by omega
          have H3 := Lib.hid h3
          clear h3
          go_wp2_with (go_at_call 47; refine hc.mono ?_; rintro e w' ⟨rfl, rfl⟩)
          go_meet
          exact ⟨rfl, by rw [HRES.out, decide_eq_true H3.out]⟩
        · have h3' : (d : Int) ≤ 0 := by omega
          have H3 := Lib.hid h3
          clear h3
          go_wp2_with (go_at_call 47; refine hc.mono ?_; rintro e w' ⟨rfl, rfl⟩)
          go_meet
          exact ⟨rfl, by rw [HRES.out, decide_eq_false H3.out]⟩
      · have h2' : ((S[0].toNat : Int) == 48) = false := by simp; omega
        have hres : decide (padP S) = false := decide_eq_false (fun h => h2 (by rw [← hh, h.2.1]; rfl))
        have HRES := Lib.hid hres
        clear hh h2 hres h1
        go_wp2
        go_meet
        exact ⟨rfl, by rw [HRES.out]⟩
    · have h1' : ¬ (1 : Int) < S.size := by omega
      have hres : decide (padP S) = false := decide_eq_false (fun h => h1 h.1)
      have HRES := Lib.hid hres
      clear h1 hres
      go_wp2
      go_meet
      exact ⟨rfl, by rw [HRES.out]⟩
  case rest =>
    obtain ⟨rfl, rfl⟩ := hcut
    by_cases hp : padP S
    · rw [decide_eq_true hp]
      clear hp HSUB
      go_wp2
      go_ret
      exact ⟨⟨true, rfl, fun h => by cases h⟩, rfl⟩
    · rw [decide_eq_false hp]
      have HP := Lib.hid hp
      clear hp HSUB
      go_wp2
      go_loopg [21] S.size (fun G s21 wr => ∃ i : Nat, s21 = .int .i64 i ∧ i + G = S.size ∧ wr = wc)
      case atStart => exact ⟨0, rfl, by omega, rfl⟩
      case round =>
        obtain ⟨i, rfl, hi, rfl⟩ := hrel
        have HI := Lib.hid hi
        by_cases hlt : i < S.size
        · have hlt' : (i : Int) < S.size := by omega
          have her := HE.out i hlt
          have HER := Lib.hid her
          clear her hi
          by_cases he : S[i].toNat = 101 ∨ S[i].toNat = 69
          · obtain ⟨k1, k2⟩ := HER.out he
            have k1' : (i : Int) + 1 < S.size := by omega
            have hgu : ((S[i].toNat : Int) == 101) = true ∨ ((S[i].toNat : Int) == 101) = false ∧ ((S[i].toNat : Int) == 69) = true := by
              rcases he with h | h
              · left; simp; omega
              · right; constructor <;> simp <;> omega
            clear he HER
            go_upto_region 6 with fail
            go_cut [33] (fun s33 wx => wx = wr ∧ s33 = .bool true)
            case first =>
              rcases hgu with hg | ⟨hg1, hg2⟩
              · go_wp2
                go_meet
                exact ⟨rfl, rfl⟩
              · go_wp2
                go_meet
                exact ⟨rfl, rfl⟩
            case rest =>
              obtain ⟨rfl, rfl⟩ := hcut
              clear hgu
              have hfin : ∀ b : Bool, ∃ b', Ending.returned (.bool b) = .returned (.bool b') ∧ (b' = false → ¬ padP S) := fun b => ⟨b, rfl, fun _ => HP.out⟩
              have HF := Lib.hid hfin
              clear hfin
              by_cases hs : S[i + 1].toNat = 43 ∨ S[i + 1].toNat = 45
              · have k3 : (i : Int) + 1 + 1 < S.size := by have := k2 hs; omega
                have hgu : ((S[i + 1].toNat : Int) == 43) = true ∨ ((S[i + 1].toNat : Int) == 43) = false ∧ ((S[i + 1].toNat : Int) == 45) = true := by
                  rcases hs with h | h
                  · left; simp; omega
                  · right; constructor <;> simp <;> omega
                clear hs k2
                have h48 : ((S[i + 1 + 1].toNat : Int) == 48) = true ∨ ((S[i + 1 + 1].toNat : Int) == 48) = false := by
                  cases ((S[i + 1 + 1].toNat : Int) == 48) <;> simp
                have hend : (i : Int) + 1 + 1 + 1 < S.size ∨ ¬ (i : Int) + 1 + 1 + 1 < S.size := Decidable.em _
                rcases hgu with hg | ⟨hg1, hg2⟩
                all_goals rcases h48 with h48 | h48
                all_goals rcases hend with he | he
                all_goals
                  go_wp2
                  go_ret
                  exact ⟨HF.out _, rfl⟩
              · have hg1 : ((S[i + 1].toNat : Int) == 43) = false := by simp; omega
                have hg2 : ((S[i + 1].toNat : Int) == 45) = false := by simp; omega
                clear hs k2
                have h48 : ((S[i + 1].toNat : Int) == 48) = true ∨ ((S[i + 1].toNat : Int) == 48) = false := by
                  cases ((S[i + 1].toNat : Int) == 48) <;> simp
                have hend : (i : Int) + 1 + 1 < S.size ∨ ¬ (i : Int) + 1 + 1 < S.size := Decidable.em _
                rcases h48 with h48 | h48
                all_goals rcases hend with he | he
                all_goals
                  go_wp2
                  go_ret
                  exact ⟨HF.out _, rfl⟩
          · have hg1 : ((S[i].toNat : Int) == 101) = false := by simp; omega
            have hg2 : ((S[i].toNat : Int) == 69) = false := by simp; omega
            clear he HER
            go_wp2
            go_roundg (gk - 1)
            case measure => have := HI.out; omega
            case rel => exact ⟨i + 1, by go_num, by have := HI.out; omega, rfl⟩
        · have hlt' : ¬ (i : Int) < S.size := by omega
          clear hi
          go_wp2
          go_ret
          exact ⟨.inl ⟨rfl, HP.out⟩, rfl⟩
end Go.Proofs.YthfjakbpeclfcaaGreatDoor
