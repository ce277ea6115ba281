/-
  strconv.ParseFloat on a decimal of the grammar.
  strconv.ParseFloat on what is no number of the grammar: an error, or NaN, or an infinity.
-/
import Derived.Test.YthfjakbpeclfcaaGreatDoorGAf
import Derived.Test.YthfjakbpeclfcaaGreatDoorShC
import Derived.Test.YthfjakbpeclfcaaGreatDoorGSw
namespace Go.Proofs.YthfjakbpeclfcaaGreatDoor
open Go.RowKit Go

/-- The two errors of the package strconv, and their texts. -/
structure ErW (B : Nat) (w : World) : Prop where
  hB : 19 ≤ B
  syn : ∃ (a o : Nat) (t : ByteArray), a < B ∧ w.cell? ⟨3, 0, none⟩ = some (.iface 215 (.pointer (some ⟨a, o, none⟩))) ∧ w.cell? ⟨a, o, none⟩ = some (.string t) ∧ t.size ≤ 1000
  rng : ∃ (a o : Nat) (t : ByteArray), a < B ∧ w.cell? ⟨4, 0, none⟩ = some (.iface 215 (.pointer (some ⟨a, o, none⟩))) ∧ w.cell? ⟨a, o, none⟩ = some (.string t) ∧ t.size ≤ 1000
theorem ErW.below {B : Nat} {w w' : World} (h : ErW B w) (hb : Below B w w') : ErW B w' := by
  have hB := h.hB
  obtain ⟨a, oa, t, h1, h2, h3, h4⟩ := h.syn
  obtain ⟨b, ob, u, k1, k2, k3, k4⟩ := h.rng
  have g : ∀ (b o : Nat) (v : Value), b < B → w.cell? ⟨b, o, none⟩ = some v → w'.cell? ⟨b, o, none⟩ = some v := fun b o v hb' hc => (hb.cell (p := ⟨b, o, none⟩) hb').trans hc
  exact ⟨hB, ⟨a, oa, t, h1, g _ _ _ (by omega) h2, g _ _ _ h1 h3, h4⟩, ⟨b, ob, u, k1, g _ _ _ (by omega) k2, g _ _ _ k1 k3, k4⟩⟩

/-- An error of the package strconv, made by the call: its block. -/
def NumErr (B : Nat) (S : ByteArray) (w w' : World) (er : Value) : Prop :=
  ∃ (N a o : Nat) (t : ByteArray), er = .iface 163 (.pointer (some ⟨N, 0, none⟩)) ∧ w.heap.size ≤ N ∧ a < B ∧ t.size ≤ 1000 ∧
    w'.heap[N]? = some (.cells #[.string ⟨#[80, 97, 114, 115, 101, 70, 108, 111, 97, 116]⟩, .string S, .iface 215 (.pointer (some ⟨a, o, none⟩))] 182 (0, 0)) ∧ w'.cell? ⟨a, o, none⟩ = some (.string t)

set_option maxHeartbeats 1000000 in
set_option maxRecDepth 100000 in
theorem pf95 (w : World) (S : ByteArray) (f n v : Value) (h : Calls Tryz.prog 113 #[.string S] w fun e w' => e = .returned (.tuple #[f, n, v]) ∧ Below w.heap.size w w') :
    Calls Tryz.prog 95 #[.string S, .int .i64 64] w fun e w' => e = .returned (.tuple #[f, n, v]) ∧ Below w.heap.size w w' := by
  go_enter Tryz.func95, Tryz.ntmps95
  go_wp2_with fail
  refine h.mono ?_
  rintro e w' ⟨rfl, hb⟩
  go_wp2
  refine bodyPost_ret (results_tmp3 rfl _ _ _) rfl ?_
  exact ⟨rfl, hb⟩

set_option maxHeartbeats 1000000 in
set_option maxRecDepth 100000 in
theorem pf77 (w : World) (S : ByteArray) (_hsz : S.size ≤ 100000) (f : Nat) (n : Int) (v : Value) (h : Calls Tryz.prog 113 #[.string S] w fun e w' => e = .returned (.tuple #[.float .f64 f, .int .i64 n, v]) ∧ Below w.heap.size w w') :
    Calls Tryz.prog 77 #[.string S, .int .i64 64] w fun e w' => e = .returned (if n = S.size then .tuple #[.float .f64 f, v] else .tuple #[.float .f64 0, .iface 162 (.int .i64 2)]) ∧ Below w.heap.size w w' := by
  have h1 := pf95 w S _ _ _ h
  clear h
  by_cases hn : n = S.size
  · have hn' : (n != (S.size : Int)) = false := by simp [hn]
    have e : (if n = (S.size : Int) then Value.tuple #[.float .f64 f, v] else .tuple #[.float .f64 0, .iface 162 (.int .i64 2)]) = .tuple #[.float .f64 f, v] := if_pos hn
    rw [e]
    clear hn e
    go_enter Tryz.func77, Tryz.ntmps77
    go_wp2_with fail
    refine h1.mono ?_
    rintro e w' ⟨rfl, hb⟩
    go_wp2
    go_ret2
    exact ⟨rfl, hb⟩
  · have hn' : (n != (S.size : Int)) = true := by simp [hn]
    have e : (if n = (S.size : Int) then Value.tuple #[.float .f64 f, v] else .tuple #[.float .f64 0, .iface 162 (.int .i64 2)]) = .tuple #[.float .f64 0, .iface 162 (.int .i64 2)] := if_neg hn
    rw [e]
    clear hn e
    go_enter Tryz.func77, Tryz.ntmps77
    go_wp2_with fail
    refine h1.mono ?_
    rintro e w' ⟨rfl, hb⟩
    go_wp2
    go_ret2
    exact ⟨rfl, hb⟩

set_option maxHeartbeats 1000000 in
set_option maxRecDepth 100000 in
theorem pf72_nil (w : World) (S : ByteArray) (f : Nat) (h : Calls Tryz.prog 77 #[.string S, .int .i64 64] w fun e w' => e = .returned (.tuple #[.float .f64 f, .nilIface]) ∧ Below w.heap.size w w') :
    Calls Tryz.prog 72 #[.string S, .int .i64 64] w fun e w' => e = .returned (.tuple #[.float .f64 f, .nilIface]) ∧ Below w.heap.size w w' := by
  go_enter Tryz.func72, Tryz.ntmps72
  go_wp2_with fail
  refine h.mono ?_
  rintro e w' ⟨rfl, hb⟩
  go_wp2
  go_ret2
  exact ⟨rfl, hb⟩

theorem toe_any (B : Nat) (w : World) (S : ByteArray) (hsz : S.size ≤ 100000) (k : Int) (hk : k = 1 ∨ k = 2) (hE : ErW B w) (hBw : B ≤ w.heap.size) :
    ∀ W, Below w.heap.size w W → Calls Tryz.prog 78 #[.string ⟨#[80, 97, 114, 115, 101, 70, 108, 111, 97, 116]⟩, .string S, .int .i64 0, .int .i64 64, .iface 162 (.int .i64 k)] W fun e w' =>
      ∃ (N a o : Nat) (t : ByteArray), e = .returned (.iface 163 (.pointer (some ⟨N, 0, none⟩))) ∧ w.heap.size ≤ N ∧ a < B ∧ t.size ≤ 1000 ∧
        w'.heap[N]? = some (.cells #[.string ⟨#[80, 97, 114, 115, 101, 70, 108, 111, 97, 116]⟩, .string S, .iface 215 (.pointer (some ⟨a, o, none⟩))] 182 (0, 0)) ∧ w'.cell? ⟨a, o, none⟩ = some (.string t) ∧ Below w.heap.size w w' := by
  intro W hb
  have hE' := hE.below (hb.mono hBw)
  have hsz2 : w.heap.size ≤ W.heap.size := hb.size
  rcases hk with rfl | rfl
  · obtain ⟨a, o, t, h1, h2, h3, h4⟩ := hE'.rng
    refine (Tryz.strconv_toError_range ⟨#[80, 97, 114, 115, 101, 70, 108, 111, 97, 116]⟩ S 0 64 _ W (by omega) h2 (.inr ⟨_, _, rfl⟩)).mono ?_
    rintro e w' ⟨N, rfl, k1, k2, k3⟩
    exact ⟨N, a, o, t, rfl, Nat.le_trans hsz2 k1, h1, h4, k2, (k3.cell (p := ⟨a, o, none⟩) (show a < W.heap.size by omega)).trans h3, hb.trans (k3.mono hsz2)⟩
  · obtain ⟨a, o, t, h1, h2, h3, h4⟩ := hE'.syn
    refine (Tryz.strconv_toError_syntax ⟨#[80, 97, 114, 115, 101, 70, 108, 111, 97, 116]⟩ S 0 64 _ W (by omega) h2 (.inr ⟨_, _, rfl⟩)).mono ?_
    rintro e w' ⟨N, rfl, k1, k2, k3⟩
    exact ⟨N, a, o, t, rfl, Nat.le_trans hsz2 k1, h1, h4, k2, (k3.cell (p := ⟨a, o, none⟩) (show a < W.heap.size by omega)).trans h3, hb.trans (k3.mono hsz2)⟩

set_option maxHeartbeats 1000000 in
set_option maxRecDepth 100000 in
theorem pf72_err (B : Nat) (w : World) (S : ByteArray) (hsz : S.size ≤ 100000) (f : Nat) (k : Int) (hk : k = 1 ∨ k = 2) (hE : ErW B w) (hBw : B ≤ w.heap.size) (h : Calls Tryz.prog 77 #[.string S, .int .i64 64] w fun e w' => e = .returned (.tuple #[.float .f64 f, .iface 162 (.int .i64 k)]) ∧ Below w.heap.size w w') :
    Calls Tryz.prog 72 #[.string S, .int .i64 64] w fun e w' => ∃ er, e = .returned (.tuple #[.float .f64 f, er]) ∧ NumErr B S w w' er ∧ Below w.heap.size w w' := by
  have htoe := toe_any B w S hsz k hk hE hBw
  have HT := Lib.hid htoe
  clear htoe
  go_enter Tryz.func72, Tryz.ntmps72
  go_wp2_with fail
  refine h.mono ?_
  rintro e w' ⟨rfl, hb⟩
  go_wp2_with (go_at_call 78; refine (HT.out _ hb).mono ?_)
  rintro e w2 ⟨N, a, o, t, rfl, h1, h2, h3, h4, h5, h6⟩
  go_wp2
  go_ret2
  exact ⟨_, rfl, ⟨N, a, o, t, rfl, h1, h2, h3, h4, h5⟩, h6⟩

/-- ParseFloat of a decimal, a minus ahead of it or not. -/
theorem parse_num (B : Nat) (w : World) (S : ByteArray) (ng : Bool) (M E : List UInt8) (x : Int) (hW : NumW B w) (hE' : ErW B w) (hl : S.data.toList = (if ng then [45] else []) ++ (M ++ E)) (hM : okM false M)
    (hg : (M.foldl rStep rs0).dg = true) (hE : ExpIs E x) (hsz : S.size ≤ 100000) :
    Calls Tryz.prog 72 #[.string S, .int .i64 64] w fun e w' => ∃ er, e = .returned (.tuple #[.float .f64 (sg ng (atV M x).1), er]) ∧
      ((atV M x).2 = .nilIface ∧ er = .nilIface ∨ (atV M x).2 = .iface 162 (.int .i64 1) ∧ NumErr B S w w' er) ∧ Below w.heap.size w w' := by
  have h1 := pf77 w S hsz _ _ _ (at_any B w S ng M E x hW hl hM hg hE hsz)
  rw [if_pos rfl] at h1
  rcases (atV_ok M x hM).2.2 with h | h
  · rw [h] at h1
    refine (pf72_nil w S _ h1).mono ?_
    rintro e w' ⟨rfl, hb⟩
    exact ⟨_, rfl, .inl ⟨h, rfl⟩, hb⟩
  · rw [h] at h1
    refine (pf72_err B w S hsz _ 1 (.inl rfl) hE' hW.hs h1).mono ?_
    rintro e w' ⟨er, rfl, hn, hb⟩
    exact ⟨_, rfl, .inr ⟨h, hn⟩, hb⟩
end Go.Proofs.YthfjakbpeclfcaaGreatDoor

namespace Go.Proofs.YthfjakbpeclfcaaGreatDoor
open Go.RowKit Go

/-- A string that ParseFloat is asked with and that is no decimal: what special and readFloat do with it. -/
def BadS (S : ByteArray) : Prop := (∀ w, Calls Tryz.prog 122 #[.string S] w fun e w' => spOut e ∧ w' = w) ∧ ∃ i ng, ∀ w, Calls Tryz.prog 123 #[.string S] w fun e w' => e = rfBad i ng ∧ ∃ n, w' = w.drewN n
theorem bad_word (S : ByteArray) (c0 : UInt8) (R : List UInt8) (hl : S.data.toList = c0 :: R) (h43 : c0.toNat ≠ 43) (h45 : c0.toNat ≠ 45) (h95 : c0.toNat ≠ 95) (h46 : c0.toNat ≠ 46)
    (hd : c0.toNat < 48 ∨ 57 < c0.toNat) (hsz : S.size ≤ 100000) : BadS S := by
  have h0 : 0 < S.size := by rw [← bytes_len, hl]; exact Nat.succ_pos _
  have hb : S[0] = c0 := byte_at (by rw [hl]; rfl) h0
  exact ⟨fun w => sp_word w S c0 h0 hb h43 h45 hsz, 0, false, fun w => rf_word w S c0 h0 hb h43 h45 h95 h46 hd hsz⟩
theorem bad_minus (S : ByteArray) (hl : S.data.toList = [45]) : BadS S := ⟨fun w => sp_minus w S hl, 1, true, fun w => rf_minus w S hl⟩
theorem bad_empty : BadS ByteArray.empty := ⟨sp_empty, 0, false, fun w => (rf_empty w).mono fun _ _ ⟨a, b⟩ => ⟨a, 0, b⟩⟩

def badOut (e : Ending) : Prop := ∃ (f : Nat) (n : Int) (v : Value), e = .returned (.tuple #[.float .f64 f, .int .i64 n, v]) ∧ (v = .nilIface ∧ oddV f ∨ v = .iface 162 (.int .i64 2))
def badOut2 (e : Ending) : Prop := ∃ (f : Nat) (v : Value), e = .returned (.tuple #[.float .f64 f, v]) ∧ (v = .nilIface ∧ oddV f ∨ v = .iface 162 (.int .i64 2))
set_option maxHeartbeats 1000000 in
set_option maxRecDepth 100000 in
theorem at_bad (w : World) (S : ByteArray) (h : BadS S) : Calls Tryz.prog 113 #[.string S] w fun e w' => badOut e ∧ Below w.heap.size w w' := by
  obtain ⟨hsp, i, ng, hrf⟩ := h
  go_enter Tryz.func113, Tryz.ntmps113
  go_wp2_with fail
  refine (hsp _).mono ?_
  rintro e w' ⟨⟨f, n, b, rfl, hb⟩, rfl⟩
  cases b
  · go_wp2_with fail
    refine (hrf _).mono ?_
    rintro e w' ⟨rfl, m, rfl⟩
    unfold rfBad
    go_wp2
    refine bodyPost_ret (results_tmp3 rfl _ _ _) rfl ?_
    exact ⟨⟨_, _, _, rfl, .inr rfl⟩, (Below.refl _ _).trans ⟨rfl, rfl, rfl, Nat.le_refl _, fun _ _ => rfl⟩⟩
  · have hf := hb rfl
    clear hb
    go_wp2
    refine bodyPost_ret (results_tmp3 rfl _ _ _) rfl ?_
    exact ⟨⟨_, _, _, rfl, .inl ⟨rfl, hf⟩⟩, Below.refl _ _⟩
set_option maxHeartbeats 1000000 in
set_option maxRecDepth 100000 in
theorem pf95_bad (w : World) (S : ByteArray) (h : BadS S) : Calls Tryz.prog 95 #[.string S, .int .i64 64] w fun e w' => badOut e ∧ Below w.heap.size w w' := by
  have h1 := at_bad w S h
  clear h
  go_enter Tryz.func95, Tryz.ntmps95
  go_wp2_with fail
  refine h1.mono ?_
  rintro e w' ⟨⟨f, n, v, rfl, hv⟩, hb⟩
  go_wp2
  refine bodyPost_ret (results_tmp3 rfl _ _ _) rfl ?_
  exact ⟨⟨f, n, v, rfl, hv⟩, hb⟩
set_option maxHeartbeats 1000000 in
set_option maxRecDepth 100000 in
theorem pf77_bad (w : World) (S : ByteArray) (h : BadS S) : Calls Tryz.prog 77 #[.string S, .int .i64 64] w fun e w' => badOut2 e ∧ Below w.heap.size w w' := by
  have h1 := pf95_bad w S h
  clear h
  go_enter Tryz.func77, Tryz.ntmps77
  go_wp2_with fail
  refine h1.mono ?_
  rintro e w' ⟨⟨f, n, v, rfl, hv⟩, hb⟩
  by_cases hn : n = S.size
  · have hn' : (n != (S.size : Int)) = false := by simp [hn]
    clear hn
    go_wp2
    refine bodyPost_ret (results_tmp2 rfl _ _ _) rfl ?_
    exact ⟨⟨f, v, rfl, hv⟩, hb⟩
  · have hn' : (n != (S.size : Int)) = true := by simp [hn]
    clear hn
    go_wp2
    refine bodyPost_ret (results_tmp2 rfl _ _ _) rfl ?_
    exact ⟨⟨_, _, rfl, .inr rfl⟩, hb⟩

/-- ParseFloat of what is no number. -/
def badOut3 (B : Nat) (S : ByteArray) (w w' : World) (e : Ending) : Prop := ∃ (f : Nat) (er : Value), e = .returned (.tuple #[.float .f64 f, er]) ∧ (er = .nilIface ∧ oddV f ∨ NumErr B S w w' er)
set_option maxHeartbeats 1000000 in
set_option maxRecDepth 100000 in
theorem parse_bad (B : Nat) (w : World) (S : ByteArray) (h : BadS S) (hsz : S.size ≤ 100000) (hE : ErW B w) (hBw : B ≤ w.heap.size) :
    Calls Tryz.prog 72 #[.string S, .int .i64 64] w fun e w' => badOut3 B S w w' e ∧ Below w.heap.size w w' := by
  have h1 := pf77_bad w S h
  have HT := Lib.hid (toe_any B w S hsz 2 (.inr rfl) hE hBw)
  clear h
  go_enter Tryz.func72, Tryz.ntmps72
  go_wp2_with fail
  refine h1.mono ?_
  rintro e w' ⟨⟨f, v, rfl, hv⟩, hb⟩
  rcases hv with ⟨rfl, hf⟩ | rfl
  · go_wp2
    refine bodyPost_ret (results_tmp2 rfl _ _ _) rfl ?_
    exact ⟨⟨f, _, rfl, .inl ⟨rfl, hf⟩⟩, hb⟩
  · go_wp2_with (go_at_call 78; refine (HT.out _ hb).mono ?_)
    rintro e w2 ⟨N, a, o, t, rfl, h1, h2, h3, h4, h5, h6⟩
    go_wp2
    refine bodyPost_ret (results_tmp2 rfl _ _ _) rfl ?_
    exact ⟨⟨f, _, rfl, .inr ⟨N, a, o, t, rfl, h1, h2, h3, h4, h5⟩⟩, h6⟩
end Go.Proofs.YthfjakbpeclfcaaGreatDoor
