/-
  The reference's Places and Nums.
-/
import Derived.Test.YthfjakbpeclfcaaGreatDoorGBl
import Derived.RegionTactic
namespace Go.Proofs.YthfjakbpeclfcaaGreatDoor
open Go.RowKit Go

theorem inf130 : (Tryz.prog.info? 130).map (fun i => (i.zero, i.size, i.bytes)) = some (some (.agg #[.float .f64 0, .float .f64 0, .float .f64 0, .float .f64 0]), 4, 32) := by kernel_rfl
/-- A place's numbers, laid out as X, Y, Z, M. -/
def pn (d : Nat) (c : List Nat) : List Nat := [c.getD 0 0, c.getD 1 0, if d = 1 ∨ d = 3 then c.getD 2 0 else 0, if d = 2 then c.getD 2 0 else if d = 3 then c.getD 3 0 else 0]
def pv (d : Nat) (c : List Nat) : List Value := fl (pn d c)
def pvs (d : Nat) (P : List (List Nat)) : List Value := P.flatMap (pv d)
theorem pvs_len (d : Nat) (P : List (List Nat)) : (pvs d P).length = P.length * 4 := by
  induction P with
  | nil => rfl
  | cons a t ih => simp only [pvs, List.flatMap_cons, List.length_append, List.length_cons, pv, fl_len] at *; rw [ih]; simp [pn]; omega
theorem flat_len {W : Nat} : ∀ {P : List (List Nat)}, (∀ c ∈ P, c.length = W) → P.flatten.length = P.length * W
  | [], _ => by simp
  | c :: P, h => by
    have h1 := flat_len (P := P) (fun x hx => h x (by simp [hx]))
    have h2 := h c (by simp)
    simp only [List.flatten_cons, List.length_append, List.length_cons, h1, h2, Nat.add_mul]
    omega
theorem flat_at {W : Nat} : ∀ {P : List (List Nat)} {k : Nat} {c : List Nat}, (∀ c ∈ P, c.length = W) → P[k]? = some c → ∀ j, j < W → P.flatten[k * W + j]? = some (c.getD j 0)
  | [], _, _, _, h, _, _ => by cases h
  | a :: P, 0, c, h, hk, j, hj => by
    simp at hk
    subst hk
    have h2 := h a (by simp)
    rw [Nat.zero_mul, Nat.zero_add, List.flatten_cons, List.getElem?_append_left (by omega)]
    simp [List.getD, List.getElem?_eq_getElem (show j < a.length by omega)]
  | a :: P, k + 1, c, h, hk, j, hj => by
    have h2 := h a (by simp)
    have h1 := flat_at (P := P) (k := k) (c := c) (fun x hx => h x (by simp [hx])) (by simpa using hk) j hj
    rw [List.flatten_cons, List.getElem?_append_right (by rw [h2, Nat.add_mul]; omega), h2]
    rw [show (k + 1) * W + j - W = k * W + j from by rw [Nat.add_mul]; omega]
    exact h1
theorem chunks (W : Nat) (hW : 0 < W) : ∀ (n : Nat) (xs : List Nat), xs.length = n * W → ∃ P : List (List Nat), P.flatten = xs ∧ (∀ c ∈ P, c.length = W) ∧ P.length = n
  | 0, xs, h => ⟨[], by rw [Nat.zero_mul] at h; rw [List.length_eq_zero_iff.1 h]; rfl, fun c hc => (by cases hc), rfl⟩
  | n + 1, xs, h => by
    obtain ⟨P, h1, h2, h3⟩ := chunks W hW n (xs.drop W) (by rw [List.length_drop, h, Nat.add_mul]; omega)
    refine ⟨xs.take W :: P, by rw [List.flatten_cons, h1, List.take_append_drop], fun c hc => ?_, by simp [h3]⟩
    rcases List.mem_cons.1 hc with rfl | hc
    · rw [List.length_take, h, Nat.add_mul]
      omega
    · exact h2 c hc

theorem wrap_small (x : Int) (h : -1000000000 ≤ x) (h2 : x ≤ 1000000000) : IntKind.i64.wrap x = x := by
  rw [IntKind.wrap_i64]
  omega
set_option maxHeartbeats 2000000 in
set_option maxRecDepth 100000 in
theorem plc_any (X : Nat) (w : World) (d : Nat) (hd : d < 4) (v : Value) (P : List (List Nat)) (hP : ∀ c ∈ P, c.length = dimW d) (hown : w.ownsRow X 79 1 v P.flatten.length (fl P.flatten)) (hlen : P.flatten.length ≤ 500000) :
    Calls Tryz.prog 49 #[v, .int .i64 d] w fun e w' => (∃ v', e = .returned v' ∧ w'.ownsRow w.heap.size 130 4 v' P.length (pvs d P)) ∧ Below w.heap.size w w' := by
  obtain ⟨i0, hi, hz0, hz1, hz2⟩ := info_parts inf130
  have hw := wid_any d hd w
  rw [wid_dim] at hw
  have hfl := flat_len hP
  obtain ⟨ao, cp, rfl⟩ := ownsRow_slice hown
  generalize hN : P.flatten.length = N at *
  have HO := Lib.hid hown
  have HP := Lib.hid hP
  have HFL := Lib.hid hfl
  have hat : ∀ k c, P[k]? = some c → ∃ g, ao = some ⟨g, 0, none⟩ ∧ ∀ W, Below w.heap.size w W → ∀ j, j < dimW d → W.cell? ⟨g, k * dimW d + j, none⟩ = some (.float .f64 (c.getD j 0)) := by
    intro k c hk
    have hkl := (List.getElem?_eq_some_iff.1 hk).1
    have hp := dimW_pos d
    have hlt : ∀ j, j < dimW d → k * dimW d + j < N := by
      intro j hj
      rw [hfl]
      have : (k + 1) * dimW d ≤ P.length * dimW d := Nat.mul_le_mul_right _ hkl
      rw [Nat.add_mul] at this
      omega
    have h0 := hlt 0 hp
    obtain ⟨g, cp', hf, -, -⟩ := hown.form (by omega)
    injection hf with hf _ _
    subst hf
    refine ⟨g, rfl, fun W hb j hj => ?_⟩
    have := (ownsRow_far hown hb).cellAt (k * dimW d + j) (by have := hlt j hj; omega)
    rw [this]
    unfold fl
    rw [List.getElem?_map, flat_at hP hk j hj]
    rfl
  have HAT := Lib.hid hat
  have hPl : P.length ≤ 500000 := by
    have := dimW_pos d
    have h1 : P.length * 1 ≤ P.length * dimW d := Nat.mul_le_mul_left _ this
    omega
  clear hown hP hfl hN hat
  have : d = 0 ∨ d = 1 ∨ d = 2 ∨ d = 3 := by omega
  rcases this with rfl | rfl | rfl | rfl
  · go_enter Tryz.func49, Tryz.ntmps49
    go_wp2_with fail
    refine hw.mono ?_
    rintro e w' ⟨rfl, hw'⟩
    have hw' := hw'.symm
    subst hw'
    clear hw
    go_wp2
    go_loopg [5, 7] P.length (fun G s5 s7 wr => ∃ k i : Nat, s7 = .int .i64 i ∧ i = k * 2 ∧ k + G = P.length ∧ wr.ownsRow w.heap.size 130 4 s5 k (pvs 0 (P.take k)) ∧ Below w.heap.size w wr)
    case atStart => exact ⟨0, 0, rfl, rfl, by omega, World.ownsRow_nil _ _ _ _, Below.refl _ _⟩
    case round =>
      obtain ⟨k, i, rfl, hik, hk, hown, hb⟩ := hrel
      have HK := Lib.hid hk
      have HOW := Lib.hid hown
      have HB := Lib.hid hb
      have HIK := Lib.hid hik
      have hfl := HFL.out
      have hd2 : dimW 0 = 2 := rfl
      rw [hd2] at hfl
      by_cases hlt : k < P.length
      · obtain ⟨c, hc⟩ : ∃ c, P[k]? = some c := ⟨_, List.getElem?_eq_getElem hlt⟩
        obtain ⟨g, rfl, cc⟩ := HAT.out k c hc
        have c0 := fun W h => cc W h 0 (by decide)
        have c1 := fun W h => cc W h 1 (by decide)
        simp only [hd2, ← hik, Nat.add_zero] at c0 c1
        have hle : (i : Int) + 2 ≤ N := by omega
        have h0 : (i : Int) < N := by omega
        have h1 : (i : Int) + 1 < N := by omega
        have hcw : ∀ W, Below wr.heap.size wr W → W.cell? ⟨g, i, none⟩ = some (.float .f64 (c.getD 0 0)) ∧ W.cell? ⟨g, i + 1, none⟩ = some (.float .f64 (c.getD 1 0)) := fun W hw => ⟨c0 W (HB.out.trans (below_far hw HB.out.size)), c1 W (HB.out.trans (below_far hw HB.out.size))⟩
        have HCW := Lib.hid hcw
        obtain ⟨k0, k1⟩ := hcw wr (Below.refl _ _)
        have HC := Lib.hid hc
        have hnew := heap_alloc_new wr (.cells #[.float .f64 0, .float .f64 0, .float .f64 0, .float .f64 0] 130)
        have hnewd : (wr.alloc (.cells #[.float .f64 0, .float .f64 0, .float .f64 0, .float .f64 0] 130)).drew.heap[wr.heap.size]? = some (.cells #[.float .f64 0, .float .f64 0, .float .f64 0, .float .f64 0] 130 (0, 0)) := hnew
        obtain ⟨n0, n1, n2, n3⟩ := cell_four hnewd
        have nz := Lib.frozen_of_heap hnewd
        have HNW := Lib.hid hnewd
        have hst := fun (W : World) (j : Nat) (x : Nat) => run_store Tryz.prog W ⟨wr.heap.size, j, none⟩ (.float .f64 x) .plain rfl
        clear cc c0 c1 hc hfl hik hnew hnewd hk hown hb hcw
        have hw1 : IntKind.i64.wrap ((i : Int) + 1) = (i : Int) + 1 := wrap_small _ (by omega) (by omega)
        have hn1 : (0 : Int) ≤ (i : Int) + 1 := by omega
        have ht1 : ((i : Int) + 1).toNat = i + 1 := by omega
        have ne0 := World.new_ne wr _ k0
        have ne1 := World.new_ne wr _ k1
        go_upto_region 6 with fail
        go_cut [8] (fun s8 wx => s8 = .pointer (some ⟨wr.heap.size, 0, none⟩) ∧ wx.heap[wr.heap.size]? = some (.cells #[.float .f64 (c.getD 0 0), .float .f64 (c.getD 1 0), .float .f64 0, .float .f64 0] 130 (0, 0)) ∧ Below wr.heap.size wr wx)
        case first =>
          go_region_held3 (fun w' => w'.cell? ⟨g, i, none⟩ = some (.float .f64 (c.getD 0 0)) ∧ w'.cell? ⟨g, i + 1, none⟩ = some (.float .f64 (c.getD 1 0))) (go_keep) (fail)
          go_wp2
          go_meet
          exact ⟨rfl, heap_alloc_new wr _, ((Below.refl _ _).alloc (Nat.le_refl _) _).trans ⟨rfl, rfl, rfl, Nat.le_refl _, fun _ _ => rfl⟩⟩
        case rest =>
          obtain ⟨rfl, hblk, hbx⟩ := hcut
          clear n0 n1 n2 n3 nz hw1 hn1 ht1 ne0 ne1 k0 k1
          obtain ⟨k0, k1⟩ := HCW.out wc hbx
          obtain ⟨n0, n1, n2, n3⟩ := cell_four hblk
          have nz := Lib.frozen_of_heap hblk
          have HBK := Lib.hid hblk
          have HBX := Lib.hid hbx
          have hOw := ownsRow_far HOW.out hbx
          have hne : ∀ j, Value.ownBlock u5 = some j → j < wr.heap.size := fun j e => (HOW.out.lt j e).2
          have HOA := Lib.hid hOw
          have HBA := Lib.hid hbx
          have HBL := Lib.hid hblk
          have hsz := HBA.out.size
          have hsz2 := HBX.out.size
          have hXr := HB.out.size
          clear hblk hbx hOw hne 
          go_wp2_with (at_builtin; refine wpList_append_own _ rfl _ _ 109 rfl w.heap.size 130 i0 (.agg #[.float .f64 0, .float .f64 0, .float .f64 0, .float .f64 0]) 4 32 Tryz.underlying109 hi hz0 hz1 hz2 rfl (by decide) _ _ _ rfl (HOA.out.alloc _) ⟨wc.heap.size, 0, none⟩ 1 1 [.float .f64 (c.getD 0 0), .float .f64 (c.getD 1 0), .float .f64 0, .float .f64 0] rfl rfl ?c1d0 ?c2d0 ?c3d0 ?c4d0 ?c5d0 ?_)
          first
            | (case c1d0 => (have hh := heap_alloc_new wc (.cells #[.float .f64 (c.getD 0 0), .float .f64 (c.getD 1 0), .float .f64 0, .float .f64 0] 130); rw [show (wc).heap.size = wc.heap.size from by simp] at hh; exact World.news_of_block hh))
            | skip
          case c2d0 => first | (intro u hu; simp at hu; rcases hu with rfl | rfl | rfl | rfl <;> rfl) | (refine ⟨?_, ?_, ?_, ?_⟩ <;> rfl) | (intro u hu; simp at hu; rcases hu with rfl | rfl | rfl <;> rfl) | (simp [Value.oneCell'])
          case c3d0 => unfold maxLen; omega
          case c4d0 => omega
          case c5d0 => first | omega | (simp; omega)
          intro v' w5 hown5 hgrow _
          have HO5 := Lib.hid hown5
          have HB5 := Lib.hid (((HB.out.trans (below_far HBA.out HB.out.size)).alloc (by omega) _).grown hgrow (by simp; omega) (fun j e => (HOA.out.lt j e).1))
          have htk : P.take (k + 1) = P.take k ++ [c] := by rw [List.take_add_one, HC.out]; rfl
          have HTK := Lib.hid htk
          clear hown5 hgrow htk
          go_wp2
          go_roundg (gk - 1)
          case measure => have := HK.out; omega
          case rel => exact ⟨k + 1, i + 2, by go_num, by have := HIK.out; omega, by have := HK.out; omega, by rw [HTK.out]; show w5.ownsRow _ 130 4 _ _ (pvs 0 (P.take k ++ [c])); unfold pvs; rw [List.flatMap_append]; exact HO5.out, HB5.out⟩
      · have hkP : k = P.length := by omega
        have hle : ¬ (i : Int) + 2 ≤ N := by omega
        have hiN : (i : Int) ≤ N := by omega
        have hO2 := HOW.out
        rw [hkP, List.take_length] at hO2
        have HO2 := Lib.hid hO2
        clear hO2 hkP hown hb hik hfl hk
        go_wp2
        go_ret
        exact ⟨⟨_, rfl, HO2.out⟩, HB.out⟩
  · go_enter Tryz.func49, Tryz.ntmps49
    go_wp2_with fail
    refine hw.mono ?_
    rintro e w' ⟨rfl, hw'⟩
    have hw' := hw'.symm
    subst hw'
    clear hw
    go_wp2
    go_loopg [5, 7] P.length (fun G s5 s7 wr => ∃ k i : Nat, s7 = .int .i64 i ∧ i = k * 3 ∧ k + G = P.length ∧ wr.ownsRow w.heap.size 130 4 s5 k (pvs 1 (P.take k)) ∧ Below w.heap.size w wr)
    case atStart => exact ⟨0, 0, rfl, rfl, by omega, World.ownsRow_nil _ _ _ _, Below.refl _ _⟩
    case round =>
      obtain ⟨k, i, rfl, hik, hk, hown, hb⟩ := hrel
      have HK := Lib.hid hk
      have HOW := Lib.hid hown
      have HB := Lib.hid hb
      have HIK := Lib.hid hik
      have hfl := HFL.out
      have hd2 : dimW 1 = 3 := rfl
      rw [hd2] at hfl
      by_cases hlt : k < P.length
      · obtain ⟨c, hc⟩ : ∃ c, P[k]? = some c := ⟨_, List.getElem?_eq_getElem hlt⟩
        obtain ⟨g, rfl, cc⟩ := HAT.out k c hc
        have c0 := fun W h => cc W h 0 (by decide)
        have c1 := fun W h => cc W h 1 (by decide)
        have c2 := fun W h => cc W h 2 (by decide)
        simp only [hd2, ← hik, Nat.add_zero] at c0 c1 c2
        have hle : (i : Int) + 3 ≤ N := by omega
        have h0 : (i : Int) < N := by omega
        have h1 : (i : Int) + 1 < N := by omega
        have h2 : (i : Int) + 2 < N := by omega
        have hcw : ∀ W, Below wr.heap.size wr W → W.cell? ⟨g, i, none⟩ = some (.float .f64 (c.getD 0 0)) ∧ W.cell? ⟨g, i + 1, none⟩ = some (.float .f64 (c.getD 1 0)) ∧ W.cell? ⟨g, i + 2, none⟩ = some (.float .f64 (c.getD 2 0)) := fun W hw => ⟨c0 W (HB.out.trans (below_far hw HB.out.size)), c1 W (HB.out.trans (below_far hw HB.out.size)), c2 W (HB.out.trans (below_far hw HB.out.size))⟩
        have HCW := Lib.hid hcw
        obtain ⟨k0, k1, k2⟩ := hcw wr (Below.refl _ _)
        have HC := Lib.hid hc
        have hnew := heap_alloc_new wr (.cells #[.float .f64 0, .float .f64 0, .float .f64 0, .float .f64 0] 130)
        have hnewd : (wr.alloc (.cells #[.float .f64 0, .float .f64 0, .float .f64 0, .float .f64 0] 130)).drew.heap[wr.heap.size]? = some (.cells #[.float .f64 0, .float .f64 0, .float .f64 0, .float .f64 0] 130 (0, 0)) := hnew
        obtain ⟨n0, n1, n2, n3⟩ := cell_four hnewd
        have nz := Lib.frozen_of_heap hnewd
        have HNW := Lib.hid hnewd
        have hst := fun (W : World) (j : Nat) (x : Nat) => run_store Tryz.prog W ⟨wr.heap.size, j, none⟩ (.float .f64 x) .plain rfl
        clear cc c0 c1 c2 hc hfl hik hnew hnewd hk hown hb hcw
        have hw1 : IntKind.i64.wrap ((i : Int) + 1) = (i : Int) + 1 := wrap_small _ (by omega) (by omega)
        have hn1 : (0 : Int) ≤ (i : Int) + 1 := by omega
        have ht1 : ((i : Int) + 1).toNat = i + 1 := by omega
        have ne0 := World.new_ne wr _ k0
        have ne1 := World.new_ne wr _ k1
        go_upto_region 6 with fail
        go_cut [8] (fun s8 wx => s8 = .pointer (some ⟨wr.heap.size, 0, none⟩) ∧ wx.heap[wr.heap.size]? = some (.cells #[.float .f64 (c.getD 0 0), .float .f64 (c.getD 1 0), .float .f64 0, .float .f64 0] 130 (0, 0)) ∧ Below wr.heap.size wr wx)
        case first =>
          go_region_held3 (fun w' => w'.cell? ⟨g, i, none⟩ = some (.float .f64 (c.getD 0 0)) ∧ w'.cell? ⟨g, i + 1, none⟩ = some (.float .f64 (c.getD 1 0))) (go_keep) (fail)
          go_wp2
          go_meet
          exact ⟨rfl, heap_alloc_new wr _, ((Below.refl _ _).alloc (Nat.le_refl _) _).trans ⟨rfl, rfl, rfl, Nat.le_refl _, fun _ _ => rfl⟩⟩
        case rest =>
          obtain ⟨rfl, hblk, hbx⟩ := hcut
          clear n0 n1 n2 n3 nz hw1 hn1 ht1 ne0 ne1 k0 k1 k2
          obtain ⟨k0, k1, k2⟩ := HCW.out wc hbx
          obtain ⟨n0, n1, n2, n3⟩ := cell_four hblk
          have nz := Lib.frozen_of_heap hblk
          have HBK := Lib.hid hblk
          have HBX := Lib.hid hbx
          have hOw := ownsRow_far HOW.out hbx
          have hb2 := Lib.heap_setCell_same (i := 2) hblk (.float .f64 (c.getD 2 0))
          have hne : ∀ j, Value.ownBlock u5 = some j → j < wr.heap.size := fun j e => (HOW.out.lt j e).2
          have hO2 := ownsRow_setCell_other hOw (a := ⟨wr.heap.size, 2, none⟩) (fun e => absurd (hne _ e) (Nat.lt_irrefl _)) (.float .f64 (c.getD 2 0))
          have hbx2 := hbx.setCell (p := ⟨wr.heap.size, 2, none⟩) (Nat.le_refl _) (.float .f64 (c.getD 2 0))
          have HOA := Lib.hid hO2
          have HBA := Lib.hid hbx2
          have HBL := Lib.hid hb2
          have hsz := HBA.out.size
          have hsz2 := HBX.out.size
          have hXr := HB.out.size
          clear hblk hbx hOw hne hb2 hO2 hbx2
          go_wp2_with (at_builtin; refine wpList_append_own _ rfl _ _ 109 rfl w.heap.size 130 i0 (.agg #[.float .f64 0, .float .f64 0, .float .f64 0, .float .f64 0]) 4 32 Tryz.underlying109 hi hz0 hz1 hz2 rfl (by decide) _ _ _ rfl (HOA.out.alloc _) ⟨wc.heap.size, 0, none⟩ 1 1 [.float .f64 (c.getD 0 0), .float .f64 (c.getD 1 0), .float .f64 (c.getD 2 0), .float .f64 0] rfl rfl ?c1d1 ?c2d1 ?c3d1 ?c4d1 ?c5d1 ?_)
          first
            | (case c1d1 => (have hh := heap_alloc_new (wc.setCell ⟨wr.heap.size, 2, none⟩ (.float .f64 (c.getD 2 0))) (.cells #[.float .f64 (c.getD 0 0), .float .f64 (c.getD 1 0), .float .f64 (c.getD 2 0), .float .f64 0] 130); rw [show ((wc.setCell ⟨wr.heap.size, 2, none⟩ (.float .f64 (c.getD 2 0)))).heap.size = wc.heap.size from by simp [World.setCell]] at hh; exact World.news_of_block hh))
            | skip
          case c2d1 => first | (intro u hu; simp at hu; rcases hu with rfl | rfl | rfl | rfl <;> rfl) | (refine ⟨?_, ?_, ?_, ?_⟩ <;> rfl) | (intro u hu; simp at hu; rcases hu with rfl | rfl | rfl <;> rfl) | (simp [Value.oneCell'])
          case c3d1 => unfold maxLen; omega
          case c4d1 => omega
          case c5d1 => first | omega | (simp; omega)
          intro v' w5 hown5 hgrow _
          have HO5 := Lib.hid hown5
          have HB5 := Lib.hid (((HB.out.trans (below_far HBA.out HB.out.size)).alloc (by omega) _).grown hgrow (by simp; omega) (fun j e => (HOA.out.lt j e).1))
          have htk : P.take (k + 1) = P.take k ++ [c] := by rw [List.take_add_one, HC.out]; rfl
          have HTK := Lib.hid htk
          clear hown5 hgrow htk
          go_wp2
          go_roundg (gk - 1)
          case measure => have := HK.out; omega
          case rel => exact ⟨k + 1, i + 3, by go_num, by have := HIK.out; omega, by have := HK.out; omega, by rw [HTK.out]; show w5.ownsRow _ 130 4 _ _ (pvs 1 (P.take k ++ [c])); unfold pvs; rw [List.flatMap_append]; exact HO5.out, HB5.out⟩
      · have hkP : k = P.length := by omega
        have hle : ¬ (i : Int) + 3 ≤ N := by omega
        have hiN : (i : Int) ≤ N := by omega
        have hO2 := HOW.out
        rw [hkP, List.take_length] at hO2
        have HO2 := Lib.hid hO2
        clear hO2 hkP hown hb hik hfl hk
        go_wp2
        go_ret
        exact ⟨⟨_, rfl, HO2.out⟩, HB.out⟩
  · go_enter Tryz.func49, Tryz.ntmps49
    go_wp2_with fail
    refine hw.mono ?_
    rintro e w' ⟨rfl, hw'⟩
    have hw' := hw'.symm
    subst hw'
    clear hw
    go_wp2
    go_loopg [5, 7] P.length (fun G s5 s7 wr => ∃ k i : Nat, s7 = .int .i64 i ∧ i = k * 3 ∧ k + G = P.length ∧ wr.ownsRow w.heap.size 130 4 s5 k (pvs 2 (P.take k)) ∧ Below w.heap.size w wr)
    case atStart => exact ⟨0, 0, rfl, rfl, by omega, World.ownsRow_nil _ _ _ _, Below.refl _ _⟩
    case round =>
      obtain ⟨k, i, rfl, hik, hk, hown, hb⟩ := hrel
      have HK := Lib.hid hk
      have HOW := Lib.hid hown
      have HB := Lib.hid hb
      have HIK := Lib.hid hik
      have hfl := HFL.out
      have hd2 : dimW 2 = 3 := rfl
      rw [hd2] at hfl
      by_cases hlt : k < P.length
      · obtain ⟨c, hc⟩ : ∃ c, P[k]? = some c := ⟨_, List.getElem?_eq_getElem hlt⟩
        obtain ⟨g, rfl, cc⟩ := HAT.out k c hc
        have c0 := fun W h => cc W h 0 (by decide)
        have c1 := fun W h => cc W h 1 (by decide)
        have c2 := fun W h => cc W h 2 (by decide)
        simp only [hd2, ← hik, Nat.add_zero] at c0 c1 c2
        have hle : (i : Int) + 3 ≤ N := by omega
        have h0 : (i : Int) < N := by omega
        have h1 : (i : Int) + 1 < N := by omega
        have h2 : (i : Int) + 2 < N := by omega
        have hcw : ∀ W, Below wr.heap.size wr W → W.cell? ⟨g, i, none⟩ = some (.float .f64 (c.getD 0 0)) ∧ W.cell? ⟨g, i + 1, none⟩ = some (.float .f64 (c.getD 1 0)) ∧ W.cell? ⟨g, i + 2, none⟩ = some (.float .f64 (c.getD 2 0)) := fun W hw => ⟨c0 W (HB.out.trans (below_far hw HB.out.size)), c1 W (HB.out.trans (below_far hw HB.out.size)), c2 W (HB.out.trans (below_far hw HB.out.size))⟩
        have HCW := Lib.hid hcw
        obtain ⟨k0, k1, k2⟩ := hcw wr (Below.refl _ _)
        have HC := Lib.hid hc
        have hnew := heap_alloc_new wr (.cells #[.float .f64 0, .float .f64 0, .float .f64 0, .float .f64 0] 130)
        have hnewd : (wr.alloc (.cells #[.float .f64 0, .float .f64 0, .float .f64 0, .float .f64 0] 130)).drew.heap[wr.heap.size]? = some (.cells #[.float .f64 0, .float .f64 0, .float .f64 0, .float .f64 0] 130 (0, 0)) := hnew
        obtain ⟨n0, n1, n2, n3⟩ := cell_four hnewd
        have nz := Lib.frozen_of_heap hnewd
        have HNW := Lib.hid hnewd
        have hst := fun (W : World) (j : Nat) (x : Nat) => run_store Tryz.prog W ⟨wr.heap.size, j, none⟩ (.float .f64 x) .plain rfl
        clear cc c0 c1 c2 hc hfl hik hnew hnewd hk hown hb hcw
        have hw1 : IntKind.i64.wrap ((i : Int) + 1) = (i : Int) + 1 := wrap_small _ (by omega) (by omega)
        have hn1 : (0 : Int) ≤ (i : Int) + 1 := by omega
        have ht1 : ((i : Int) + 1).toNat = i + 1 := by omega
        have ne0 := World.new_ne wr _ k0
        have ne1 := World.new_ne wr _ k1
        go_upto_region 6 with fail
        go_cut [8] (fun s8 wx => s8 = .pointer (some ⟨wr.heap.size, 0, none⟩) ∧ wx.heap[wr.heap.size]? = some (.cells #[.float .f64 (c.getD 0 0), .float .f64 (c.getD 1 0), .float .f64 0, .float .f64 0] 130 (0, 0)) ∧ Below wr.heap.size wr wx)
        case first =>
          go_region_held3 (fun w' => w'.cell? ⟨g, i, none⟩ = some (.float .f64 (c.getD 0 0)) ∧ w'.cell? ⟨g, i + 1, none⟩ = some (.float .f64 (c.getD 1 0))) (go_keep) (fail)
          go_wp2
          go_meet
          exact ⟨rfl, heap_alloc_new wr _, ((Below.refl _ _).alloc (Nat.le_refl _) _).trans ⟨rfl, rfl, rfl, Nat.le_refl _, fun _ _ => rfl⟩⟩
        case rest =>
          obtain ⟨rfl, hblk, hbx⟩ := hcut
          clear n0 n1 n2 n3 nz hw1 hn1 ht1 ne0 ne1 k0 k1 k2
          obtain ⟨k0, k1, k2⟩ := HCW.out wc hbx
          obtain ⟨n0, n1, n2, n3⟩ := cell_four hblk
          have nz := Lib.frozen_of_heap hblk
          have HBK := Lib.hid hblk
          have HBX := Lib.hid hbx
          have hOw := ownsRow_far HOW.out hbx
          have hb3 := Lib.heap_setCell_same (i := 3) hblk (.float .f64 (c.getD 2 0))
          have hne : ∀ j, Value.ownBlock u5 = some j → j < wr.heap.size := fun j e => (HOW.out.lt j e).2
          have hO3 := ownsRow_setCell_other hOw (a := ⟨wr.heap.size, 3, none⟩) (fun e => absurd (hne _ e) (Nat.lt_irrefl _)) (.float .f64 (c.getD 2 0))
          have hbx3 := hbx.setCell (p := ⟨wr.heap.size, 3, none⟩) (Nat.le_refl _) (.float .f64 (c.getD 2 0))
          have HOA := Lib.hid hO3
          have HBA := Lib.hid hbx3
          have HBL := Lib.hid hb3
          have hsz := HBA.out.size
          have hsz2 := HBX.out.size
          have hXr := HB.out.size
          clear hblk hbx hOw hne hb3 hO3 hbx3
          go_wp2_with (at_builtin; refine wpList_append_own _ rfl _ _ 109 rfl w.heap.size 130 i0 (.agg #[.float .f64 0, .float .f64 0, .float .f64 0, .float .f64 0]) 4 32 Tryz.underlying109 hi hz0 hz1 hz2 rfl (by decide) _ _ _ rfl (HOA.out.alloc _) ⟨wc.heap.size, 0, none⟩ 1 1 [.float .f64 (c.getD 0 0), .float .f64 (c.getD 1 0), .float .f64 0, .float .f64 (c.getD 2 0)] rfl rfl ?c1d2 ?c2d2 ?c3d2 ?c4d2 ?c5d2 ?_)
          first
            | (case c1d2 => (have hh := heap_alloc_new (wc.setCell ⟨wr.heap.size, 3, none⟩ (.float .f64 (c.getD 2 0))) (.cells #[.float .f64 (c.getD 0 0), .float .f64 (c.getD 1 0), .float .f64 0, .float .f64 (c.getD 2 0)] 130); rw [show ((wc.setCell ⟨wr.heap.size, 3, none⟩ (.float .f64 (c.getD 2 0)))).heap.size = wc.heap.size from by simp [World.setCell]] at hh; exact World.news_of_block hh))
            | skip
          case c2d2 => first | (intro u hu; simp at hu; rcases hu with rfl | rfl | rfl | rfl <;> rfl) | (refine ⟨?_, ?_, ?_, ?_⟩ <;> rfl) | (intro u hu; simp at hu; rcases hu with rfl | rfl | rfl <;> rfl) | (simp [Value.oneCell'])
          case c3d2 => unfold maxLen; omega
          case c4d2 => omega
          case c5d2 => first | omega | (simp; omega)
          intro v' w5 hown5 hgrow _
          have HO5 := Lib.hid hown5
          have HB5 := Lib.hid (((HB.out.trans (below_far HBA.out HB.out.size)).alloc (by omega) _).grown hgrow (by simp; omega) (fun j e => (HOA.out.lt j e).1))
          have htk : P.take (k + 1) = P.take k ++ [c] := by rw [List.take_add_one, HC.out]; rfl
          have HTK := Lib.hid htk
          clear hown5 hgrow htk
          go_wp2
          go_roundg (gk - 1)
          case measure => have := HK.out; omega
          case rel => exact ⟨k + 1, i + 3, by go_num, by have := HIK.out; omega, by have := HK.out; omega, by rw [HTK.out]; show w5.ownsRow _ 130 4 _ _ (pvs 2 (P.take k ++ [c])); unfold pvs; rw [List.flatMap_append]; exact HO5.out, HB5.out⟩
      · have hkP : k = P.length := by omega
        have hle : ¬ (i : Int) + 3 ≤ N := by omega
        have hiN : (i : Int) ≤ N := by omega
        have hO2 := HOW.out
        rw [hkP, List.take_length] at hO2
        have HO2 := Lib.hid hO2
        clear hO2 hkP hown hb hik hfl hk
        go_wp2
        go_ret
        exact ⟨⟨_, rfl, HO2.out⟩, HB.out⟩
  · go_enter Tryz.func49, Tryz.ntmps49
    go_wp2_with fail
    refine hw.mono ?_
    rintro e w' ⟨rfl, hw'⟩
    have hw' := hw'.symm
    subst hw'
    clear hw
    go_wp2
    go_loopg [5, 7] P.length (fun G s5 s7 wr => ∃ k i : Nat, s7 = .int .i64 i ∧ i = k * 4 ∧ k + G = P.length ∧ wr.ownsRow w.heap.size 130 4 s5 k (pvs 3 (P.take k)) ∧ Below w.heap.size w wr)
    case atStart => exact ⟨0, 0, rfl, rfl, by omega, World.ownsRow_nil _ _ _ _, Below.refl _ _⟩
    case round =>
      obtain ⟨k, i, rfl, hik, hk, hown, hb⟩ := hrel
      have HK := Lib.hid hk
      have HOW := Lib.hid hown
      have HB := Lib.hid hb
      have HIK := Lib.hid hik
      have hfl := HFL.out
      have hd2 : dimW 3 = 4 := rfl
      rw [hd2] at hfl
      by_cases hlt : k < P.length
      · obtain ⟨c, hc⟩ : ∃ c, P[k]? = some c := ⟨_, List.getElem?_eq_getElem hlt⟩
        obtain ⟨g, rfl, cc⟩ := HAT.out k c hc
        have c0 := fun W h => cc W h 0 (by decide)
        have c1 := fun W h => cc W h 1 (by decide)
        have c2 := fun W h => cc W h 2 (by decide)
        have c3 := fun W h => cc W h 3 (by decide)
        simp only [hd2, ← hik, Nat.add_zero] at c0 c1 c2 c3
        have hle : (i : Int) + 4 ≤ N := by omega
        have h0 : (i : Int) < N := by omega
        have h1 : (i : Int) + 1 < N := by omega
        have h2 : (i : Int) + 2 < N := by omega
        have h3 : (i : Int) + 3 < N := by omega
        have hcw : ∀ W, Below wr.heap.size wr W → W.cell? ⟨g, i, none⟩ = some (.float .f64 (c.getD 0 0)) ∧ W.cell? ⟨g, i + 1, none⟩ = some (.float .f64 (c.getD 1 0)) ∧ W.cell? ⟨g, i + 2, none⟩ = some (.float .f64 (c.getD 2 0)) ∧ W.cell? ⟨g, i + 3, none⟩ = some (.float .f64 (c.getD 3 0)) := fun W hw => ⟨c0 W (HB.out.trans (below_far hw HB.out.size)), c1 W (HB.out.trans (below_far hw HB.out.size)), c2 W (HB.out.trans (below_far hw HB.out.size)), c3 W (HB.out.trans (below_far hw HB.out.size))⟩
        have HCW := Lib.hid hcw
        obtain ⟨k0, k1, k2, k3⟩ := hcw wr (Below.refl _ _)
        have HC := Lib.hid hc
        have hnew := heap_alloc_new wr (.cells #[.float .f64 0, .float .f64 0, .float .f64 0, .float .f64 0] 130)
        have hnewd : (wr.alloc (.cells #[.float .f64 0, .float .f64 0, .float .f64 0, .float .f64 0] 130)).drew.heap[wr.heap.size]? = some (.cells #[.float .f64 0, .float .f64 0, .float .f64 0, .float .f64 0] 130 (0, 0)) := hnew
        obtain ⟨n0, n1, n2, n3⟩ := cell_four hnewd
        have nz := Lib.frozen_of_heap hnewd
        have HNW := Lib.hid hnewd
        have hst := fun (W : World) (j : Nat) (x : Nat) => run_store Tryz.prog W ⟨wr.heap.size, j, none⟩ (.float .f64 x) .plain rfl
        clear cc c0 c1 c2 c3 hc hfl hik hnew hnewd hk hown hb hcw
        have hw1 : IntKind.i64.wrap ((i : Int) + 1) = (i : Int) + 1 := wrap_small _ (by omega) (by omega)
        have hn1 : (0 : Int) ≤ (i : Int) + 1 := by omega
        have ht1 : ((i : Int) + 1).toNat = i + 1 := by omega
        have ne0 := World.new_ne wr _ k0
        have ne1 := World.new_ne wr _ k1
        go_upto_region 6 with fail
        go_cut [8] (fun s8 wx => s8 = .pointer (some ⟨wr.heap.size, 0, none⟩) ∧ wx.heap[wr.heap.size]? = some (.cells #[.float .f64 (c.getD 0 0), .float .f64 (c.getD 1 0), .float .f64 0, .float .f64 0] 130 (0, 0)) ∧ Below wr.heap.size wr wx)
        case first =>
          go_region_held3 (fun w' => w'.cell? ⟨g, i, none⟩ = some (.float .f64 (c.getD 0 0)) ∧ w'.cell? ⟨g, i + 1, none⟩ = some (.float .f64 (c.getD 1 0))) (go_keep) (fail)
          go_wp2
          go_meet
          exact ⟨rfl, heap_alloc_new wr _, ((Below.refl _ _).alloc (Nat.le_refl _) _).trans ⟨rfl, rfl, rfl, Nat.le_refl _, fun _ _ => rfl⟩⟩
        case rest =>
          obtain ⟨rfl, hblk, hbx⟩ := hcut
          clear n0 n1 n2 n3 nz hw1 hn1 ht1 ne0 ne1 k0 k1 k2 k3
          obtain ⟨k0, k1, k2, k3⟩ := HCW.out wc hbx
          obtain ⟨n0, n1, n2, n3⟩ := cell_four hblk
          have nz := Lib.frozen_of_heap hblk
          have HBK := Lib.hid hblk
          have HBX := Lib.hid hbx
          have hOw := ownsRow_far HOW.out hbx
          have hb2 := Lib.heap_setCell_same (i := 2) hblk (.float .f64 (c.getD 2 0))
          have hb3 := Lib.heap_setCell_same (i := 3) hb2 (.float .f64 (c.getD 3 0))
          have hne : ∀ j, Value.ownBlock u5 = some j → j < wr.heap.size := fun j e => (HOW.out.lt j e).2
          have hO2 := ownsRow_setCell_other hOw (a := ⟨wr.heap.size, 2, none⟩) (fun e => absurd (hne _ e) (Nat.lt_irrefl _)) (.float .f64 (c.getD 2 0))
          have hbx2 := hbx.setCell (p := ⟨wr.heap.size, 2, none⟩) (Nat.le_refl _) (.float .f64 (c.getD 2 0))
          have hO3 := ownsRow_setCell_other hO2 (a := ⟨wr.heap.size, 3, none⟩) (fun e => absurd (hne _ e) (Nat.lt_irrefl _)) (.float .f64 (c.getD 3 0))
          have hbx3 := hbx2.setCell (p := ⟨wr.heap.size, 3, none⟩) (Nat.le_refl _) (.float .f64 (c.getD 3 0))
          have HOA := Lib.hid hO3
          have HBA := Lib.hid hbx3
          have HBL := Lib.hid hb3
          have hsz := HBA.out.size
          have hsz2 := HBX.out.size
          have hXr := HB.out.size
          clear hblk hbx hOw hne hb2 hO2 hbx2 hb3 hO3 hbx3
          go_wp2_with (at_builtin; refine wpList_append_own _ rfl _ _ 109 rfl w.heap.size 130 i0 (.agg #[.float .f64 0, .float .f64 0, .float .f64 0, .float .f64 0]) 4 32 Tryz.underlying109 hi hz0 hz1 hz2 rfl (by decide) _ _ _ rfl (HOA.out.alloc _) ⟨wc.heap.size, 0, none⟩ 1 1 [.float .f64 (c.getD 0 0), .float .f64 (c.getD 1 0), .float .f64 (c.getD 2 0), .float .f64 (c.getD 3 0)] rfl rfl ?c1d3 ?c2d3 ?c3d3 ?c4d3 ?c5d3 ?_)
          first
            | (case c1d3 => (have hh := heap_alloc_new ((wc.setCell ⟨wr.heap.size, 2, none⟩ (.float .f64 (c.getD 2 0))).setCell ⟨wr.heap.size, 3, none⟩ (.float .f64 (c.getD 3 0))) (.cells #[.float .f64 (c.getD 0 0), .float .f64 (c.getD 1 0), .float .f64 (c.getD 2 0), .float .f64 (c.getD 3 0)] 130); rw [show (((wc.setCell ⟨wr.heap.size, 2, none⟩ (.float .f64 (c.getD 2 0))).setCell ⟨wr.heap.size, 3, none⟩ (.float .f64 (c.getD 3 0)))).heap.size = wc.heap.size from by simp [World.setCell]] at hh; exact World.news_of_block hh))
            | skip
          case c2d3 => first | (intro u hu; simp at hu; rcases hu with rfl | rfl | rfl | rfl <;> rfl) | (refine ⟨?_, ?_, ?_, ?_⟩ <;> rfl) | (intro u hu; simp at hu; rcases hu with rfl | rfl | rfl <;> rfl) | (simp [Value.oneCell'])
          case c3d3 => unfold maxLen; omega
          case c4d3 => omega
          case c5d3 => first | omega | (simp; omega)
          intro v' w5 hown5 hgrow _
          have HO5 := Lib.hid hown5
          have HB5 := Lib.hid (((HB.out.trans (below_far HBA.out HB.out.size)).alloc (by omega) _).grown hgrow (by simp; omega) (fun j e => (HOA.out.lt j e).1))
          have htk : P.take (k + 1) = P.take k ++ [c] := by rw [List.take_add_one, HC.out]; rfl
          have HTK := Lib.hid htk
          clear hown5 hgrow htk
          go_wp2
          go_roundg (gk - 1)
          case measure => have := HK.out; omega
          case rel => exact ⟨k + 1, i + 4, by go_num, by have := HIK.out; omega, by have := HK.out; omega, by rw [HTK.out]; show w5.ownsRow _ 130 4 _ _ (pvs 3 (P.take k ++ [c])); unfold pvs; rw [List.flatMap_append]; exact HO5.out, HB5.out⟩
      · have hkP : k = P.length := by omega
        have hle : ¬ (i : Int) + 4 ≤ N := by omega
        have hiN : (i : Int) ≤ N := by omega
        have hO2 := HOW.out
        rw [hkP, List.take_length] at hO2
        have HO2 := Lib.hid hO2
        clear hO2 hkP hown hb hik hfl hk
        go_wp2
        go_ret
        exact ⟨⟨_, rfl, HO2.out⟩, HB.out⟩
--ENDPLC
end Go.Proofs.YthfjakbpeclfcaaGreatDoor
