/-
  The reference's Nums.
-/
import Derived.Test.YthfjakbpeclfcaaGreatDoorPc
namespace Go.Proofs.YthfjakbpeclfcaaGreatDoor
open Go.RowKit Go

theorem pvs_at (d : Nat) : ∀ (P : List (List Nat)) (k : Nat) (c : List Nat), P[k]? = some c → ∀ j, j < 4 → (pvs d P)[k * 4 + j]? = (pv d c)[j]?
  | [], _, _, h, _, _ => by cases h
  | a :: P, 0, c, h, j, hj => by
    simp at h
    subst h
    have hl : (pv d a).length = 4 := by simp [pv, fl, pn]
    show (pv d a ++ pvs d P)[0 * 4 + j]? = _
    rw [Nat.zero_mul, Nat.zero_add, List.getElem?_append_left (by omega)]
  | a :: P, k + 1, c, h, j, hj => by
    have hl : (pv d a).length = 4 := by simp [pv, fl, pn]
    have h1 := pvs_at d P k c (by simpa using h) j hj
    show (pv d a ++ pvs d P)[(k + 1) * 4 + j]? = _
    rw [List.getElem?_append_right (by omega), hl, show (k + 1) * 4 + j - 4 = k * 4 + j from by omega]
    exact h1
theorem chunk2 {c : List Nat} (h : c.length = 2) : c = [c.getD 0 0, c.getD 1 0] := by
  match c, h with
  | [a, b], _ => rfl
theorem chunk3 {c : List Nat} (h : c.length = 3) : c = [c.getD 0 0, c.getD 1 0, c.getD 2 0] := by
  match c, h with
  | [a, b, e], _ => rfl
theorem chunk4 {c : List Nat} (h : c.length = 4) : c = [c.getD 0 0, c.getD 1 0, c.getD 2 0, c.getD 3 0] := by
  match c, h with
  | [a, b, e, f], _ => rfl
set_option maxHeartbeats 4000000 in
set_option maxRecDepth 100000 in
theorem nums_any (X : Nat) (w : World) (d : Nat) (hd : d < 4) (v : Value) (P : List (List Nat)) (xs : List Nat) (hx : P.flatten = xs) (hP : ∀ c ∈ P, c.length = dimW d) (hown : w.ownsRow X 130 4 v P.length (pvs d P)) (hlen : P.length ≤ 500000) :
    Calls Tryz.prog 48 #[v, .int .i64 d] w fun e w' => (∃ v', e = .returned v' ∧ w'.ownsRow w.heap.size 79 1 v' xs.length (fl xs)) ∧ Below w.heap.size w w' := by
  obtain ⟨i0, hi, hz0, hz1, hz2⟩ := info_parts inf79
  obtain ⟨ao, cp, rfl⟩ := ownsRow_slice hown
  have HO := Lib.hid hown
  have HP := Lib.hid hP
  have HX := Lib.hid hx
  have hat : ∀ k c, P[k]? = some c → ∃ g, ao = some ⟨g, 0, none⟩ ∧ ∀ W, Below w.heap.size w W → ∀ j, j < 4 → W.cell? ⟨g, k * 4 + j, none⟩ = (pv d c)[j]? := by
    intro k c hk
    have hkl := (List.getElem?_eq_some_iff.1 hk).1
    obtain ⟨g, cp', hf, -, -⟩ := hown.form (by omega)
    injection hf with hf _ _
    subst hf
    refine ⟨g, rfl, fun W hb j hj => ?_⟩
    rw [(ownsRow_far hown hb).cellAt (k * 4 + j) (by omega)]
    exact pvs_at d P k c hk j hj
  have HAT := Lib.hid hat
  clear hown hP hat hx
  have : d = 0 ∨ d = 1 ∨ d = 2 ∨ d = 3 := by omega
  rcases this with rfl | rfl | rfl | rfl
  · go_enter Tryz.func48, Tryz.ntmps48
    go_wp2
    go_loopg [5, 10] P.length (fun G s5 s10 wr => ∃ k : Nat, s10 = .int .i64 k ∧ k + G = P.length ∧ wr.ownsRow w.heap.size 79 1 s5 (k * 2) (fl (P.take k).flatten) ∧ Below w.heap.size w wr)
    case atStart => exact ⟨0, rfl, by omega, by rw [Nat.zero_mul]; exact World.ownsRow_nil _ _ _ _, Below.refl _ _⟩
    case round =>
      obtain ⟨k, rfl, hk, hown, hb⟩ := hrel
      have HK := Lib.hid hk
      have HOW := Lib.hid hown
      have HB := Lib.hid hb
      by_cases hlt : k < P.length
      · obtain ⟨c, hc⟩ : ∃ c, P[k]? = some c := ⟨_, List.getElem?_eq_getElem hlt⟩
        have hlt' : (k : Int) < P.length := by omega
        obtain ⟨g, rfl, cc⟩ := HAT.out k c hc
        have c0 : wr.cell? ⟨g, k * 4, none⟩ = some (.float .f64 (c.getD 0 0)) := cc wr HB.out 0 (by decide)
        have c1 : wr.cell? ⟨g, k * 4 + 1, none⟩ = some (.float .f64 (c.getD 1 0)) := cc wr HB.out 1 (by decide)
        have c2 : wr.cell? ⟨g, k * 4 + 2, none⟩ = some (.float .f64 0) := cc wr HB.out 2 (by decide)
        have c3 : wr.cell? ⟨g, k * 4 + 3, none⟩ = some (.float .f64 0) := cc wr HB.out 3 (by decide)
        have hcl : c.length = 2 := HP.out c (List.mem_of_getElem? hc)
        have hch : fl c = [.float .f64 (c.getD 0 0), .float .f64 (c.getD 1 0)] := by rw [chunk2 hcl]; rfl
        have htk : P.take (k + 1) = P.take k ++ [c] := by rw [List.take_add_one, hc]; rfl
        have HTK := Lib.hid htk
        have HCH := Lib.hid hch
        have hXr := HB.out.size
        have hne : ∀ j, Value.ownBlock u5 = some j → j < wr.heap.size := fun j e => (HOW.out.lt j e).2
        have HNE := Lib.hid hne
        clear cc hc hk hown hb hcl hch htk hne
        have hst := fun (W : World) (j : Nat) (x : Nat) => run_store Tryz.prog W ⟨wr.heap.size, j, none⟩ (.float .f64 x) .plain rfl
        go_wp2_with (at_builtin; refine wpList_append_own _ rfl _ _ 30 rfl w.heap.size 79 i0 (.float .f64 0) 1 8 Tryz.underlying30 hi hz0 hz1 hz2 rfl (by decide) _ _ _ rfl ((HOW.out.alloc _).alloc _) ⟨wr.heap.size + 1, 0, none⟩ 2 2 [.float .f64 (c.getD 0 0), .float .f64 (c.getD 1 0)] rfl rfl ?c1x0d0 ?c2x0d0 ?c3x0d0 ?c4x0d0 ?c5x0d0 ?_)
        first
          | (case c1x0d0 => exact World.news_of_block (heap_alloc2_new _ _ _))
          | skip
        first | (case c2x0d0 => first | rfl | (exact ⟨rfl, rfl⟩) | (intro u hu; simp at hu; rcases hu with rfl | rfl <;> rfl) | (intro u hu; simp at hu; subst hu; rfl)) | skip
        first | (case c3x0d0 => unfold maxLen; omega) | skip
        first | (case c4x0d0 => omega) | skip
        first | (case c5x0d0 => first | omega | (simp; omega)) | skip
        intro v1 w1 hown1 hgrow1 _
        have hblk1 := (hgrow1.block wr.heap.size (by simp; omega) (fun e => absurd (HNE.out _ e.symm) (Nat.lt_irrefl _))).trans (heap_alloc2_old wr _ _)
        have hb1 : Below w.heap.size w w1 := ((HB.out.alloc hXr _).alloc (by simp; omega) _).grown hgrow1 (by simp; omega) (fun j e => (HOW.out.lt j e).1)
        have HO1 := Lib.hid hown1
        have HB1 := Lib.hid hb1
        have hs1 := hb1.size
        clear hown1 hgrow1 hb1 hblk1
        go_wp2
        go_roundg (gk - 1)
        case measure => have := HK.out; omega
        case rel =>
          refine ⟨k + 1, by go_num, by have := HK.out; omega, ?_, HB1.out⟩
          have h5 := HO1.out
          rw [HTK.out, List.flatten_append, ← fl_app, List.flatten_cons, List.flatten_nil, List.append_nil, HCH.out, Nat.add_mul, Nat.one_mul]
          simpa [List.append_assoc, Nat.add_assoc] using h5
      · have hlt' : ¬ (k : Int) < P.length := by omega
        have hkP : k = P.length := by omega
        have hfl : P.flatten.length = P.length * 2 := flat_len HP.out
        have hO2 := HOW.out
        rw [hkP, List.take_length, ← hfl, HX.out] at hO2
        have HO2 := Lib.hid hO2
        clear hO2 hkP hown hb hfl hk
        go_wp2
        go_ret
        exact ⟨⟨_, rfl, HO2.out⟩, HB.out⟩
  · go_enter Tryz.func48, Tryz.ntmps48
    go_wp2
    go_loopg [5, 10] P.length (fun G s5 s10 wr => ∃ k : Nat, s10 = .int .i64 k ∧ k + G = P.length ∧ wr.ownsRow w.heap.size 79 1 s5 (k * 3) (fl (P.take k).flatten) ∧ Below w.heap.size w wr)
    case atStart => exact ⟨0, rfl, by omega, by rw [Nat.zero_mul]; exact World.ownsRow_nil _ _ _ _, Below.refl _ _⟩
    case round =>
      obtain ⟨k, rfl, hk, hown, hb⟩ := hrel
      have HK := Lib.hid hk
      have HOW := Lib.hid hown
      have HB := Lib.hid hb
      by_cases hlt : k < P.length
      · obtain ⟨c, hc⟩ : ∃ c, P[k]? = some c := ⟨_, List.getElem?_eq_getElem hlt⟩
        have hlt' : (k : Int) < P.length := by omega
        obtain ⟨g, rfl, cc⟩ := HAT.out k c hc
        have c0 : wr.cell? ⟨g, k * 4, none⟩ = some (.float .f64 (c.getD 0 0)) := cc wr HB.out 0 (by decide)
        have c1 : wr.cell? ⟨g, k * 4 + 1, none⟩ = some (.float .f64 (c.getD 1 0)) := cc wr HB.out 1 (by decide)
        have c2 : wr.cell? ⟨g, k * 4 + 2, none⟩ = some (.float .f64 (c.getD 2 0)) := cc wr HB.out 2 (by decide)
        have c3 : wr.cell? ⟨g, k * 4 + 3, none⟩ = some (.float .f64 0) := cc wr HB.out 3 (by decide)
        have hcl : c.length = 3 := HP.out c (List.mem_of_getElem? hc)
        have hch : fl c = [.float .f64 (c.getD 0 0), .float .f64 (c.getD 1 0), .float .f64 (c.getD 2 0)] := by rw [chunk3 hcl]; rfl
        have htk : P.take (k + 1) = P.take k ++ [c] := by rw [List.take_add_one, hc]; rfl
        have HTK := Lib.hid htk
        have HCH := Lib.hid hch
        have hXr := HB.out.size
        have hne : ∀ j, Value.ownBlock u5 = some j → j < wr.heap.size := fun j e => (HOW.out.lt j e).2
        have HNE := Lib.hid hne
        clear cc hc hk hown hb hcl hch htk hne
        have hst := fun (W : World) (j : Nat) (x : Nat) => run_store Tryz.prog W ⟨wr.heap.size, j, none⟩ (.float .f64 x) .plain rfl
        go_wp2_with (at_builtin; refine wpList_append_own _ rfl _ _ 30 rfl w.heap.size 79 i0 (.float .f64 0) 1 8 Tryz.underlying30 hi hz0 hz1 hz2 rfl (by decide) _ _ _ rfl ((HOW.out.alloc _).alloc _) ⟨wr.heap.size + 1, 0, none⟩ 2 2 [.float .f64 (c.getD 0 0), .float .f64 (c.getD 1 0)] rfl rfl ?c1x0d1 ?c2x0d1 ?c3x0d1 ?c4x0d1 ?c5x0d1 ?_)
        first
          | (case c1x0d1 => exact World.news_of_block (heap_alloc2_new _ _ _))
          | skip
        first | (case c2x0d1 => first | rfl | (exact ⟨rfl, rfl⟩) | (intro u hu; simp at hu; rcases hu with rfl | rfl <;> rfl) | (intro u hu; simp at hu; subst hu; rfl)) | skip
        first | (case c3x0d1 => unfold maxLen; omega) | skip
        first | (case c4x0d1 => omega) | skip
        first | (case c5x0d1 => first | omega | (simp; omega)) | skip
        intro v1 w1 hown1 hgrow1 _
        have hblk1 := (hgrow1.block wr.heap.size (by simp; omega) (fun e => absurd (HNE.out _ e.symm) (Nat.lt_irrefl _))).trans (heap_alloc2_old wr _ _)
        have hb1 : Below w.heap.size w w1 := ((HB.out.alloc hXr _).alloc (by simp; omega) _).grown hgrow1 (by simp; omega) (fun j e => (HOW.out.lt j e).1)
        have HO1 := Lib.hid hown1
        have HB1 := Lib.hid hb1
        have hs1 := hb1.size
        obtain ⟨m00, m01, m02, m03⟩ := cell_four hblk1
        clear hown1 hgrow1 hb1
        go_wp2_with (at_builtin; refine wpList_append_own _ rfl _ _ 30 rfl w.heap.size 79 i0 (.float .f64 0) 1 8 Tryz.underlying30 hi hz0 hz1 hz2 rfl (by decide) _ _ _ rfl (HO1.out.alloc _) ⟨w1.heap.size, 0, none⟩ 1 1 [.float .f64 (c.getD 2 0)] rfl rfl ?c1x1d1 ?c2x1d1 ?c3x1d1 ?c4x1d1 ?c5x1d1 ?_)
        first
          | (case c1x1d1 => exact World.news_of_block (heap_alloc_new _ _))
          | skip
        first | (case c2x1d1 => first | rfl | (exact ⟨rfl, rfl⟩) | (intro u hu; simp at hu; rcases hu with rfl | rfl <;> rfl) | (intro u hu; simp at hu; subst hu; rfl)) | skip
        first | (case c3x1d1 => unfold maxLen; omega) | skip
        first | (case c4x1d1 => omega) | skip
        first | (case c5x1d1 => first | omega | (simp; omega)) | skip
        intro v2 w2 hown2 hgrow2 _
        have hblk2 := (hgrow2.block wr.heap.size (by simp; have := Lib.lt_of_heap hblk1; omega) (own_ne HO1.out hblk1 (by decide))).trans ((Below.heap_alloc w1 _ _ (Lib.lt_of_heap hblk1)).trans hblk1)
        have hb2 : Below w.heap.size w w2 := (HB1.out.alloc HB1.out.size _).grown hgrow2 (by simp; have := HB1.out.size; omega) (fun j e => (HO1.out.lt j e).1)
        have HO2 := Lib.hid hown2
        have HB2 := Lib.hid hb2
        have hs2 := hb2.size
        clear hown2 hgrow2 hb2 hblk2
        go_wp2
        go_roundg (gk - 1)
        case measure => have := HK.out; omega
        case rel =>
          refine ⟨k + 1, by go_num, by have := HK.out; omega, ?_, HB2.out⟩
          have h5 := HO2.out
          rw [HTK.out, List.flatten_append, ← fl_app, List.flatten_cons, List.flatten_nil, List.append_nil, HCH.out, Nat.add_mul, Nat.one_mul]
          simpa [List.append_assoc, Nat.add_assoc] using h5
      · have hlt' : ¬ (k : Int) < P.length := by omega
        have hkP : k = P.length := by omega
        have hfl : P.flatten.length = P.length * 3 := flat_len HP.out
        have hO2 := HOW.out
        rw [hkP, List.take_length, ← hfl, HX.out] at hO2
        have HO2 := Lib.hid hO2
        clear hO2 hkP hown hb hfl hk
        go_wp2
        go_ret
        exact ⟨⟨_, rfl, HO2.out⟩, HB.out⟩
  · go_enter Tryz.func48, Tryz.ntmps48
    go_wp2
    go_loopg [5, 10] P.length (fun G s5 s10 wr => ∃ k : Nat, s10 = .int .i64 k ∧ k + G = P.length ∧ wr.ownsRow w.heap.size 79 1 s5 (k * 3) (fl (P.take k).flatten) ∧ Below w.heap.size w wr)
    case atStart => exact ⟨0, rfl, by omega, by rw [Nat.zero_mul]; exact World.ownsRow_nil _ _ _ _, Below.refl _ _⟩
    case round =>
      obtain ⟨k, rfl, hk, hown, hb⟩ := hrel
      have HK := Lib.hid hk
      have HOW := Lib.hid hown
      have HB := Lib.hid hb
      by_cases hlt : k < P.length
      · obtain ⟨c, hc⟩ : ∃ c, P[k]? = some c := ⟨_, List.getElem?_eq_getElem hlt⟩
        have hlt' : (k : Int) < P.length := by omega
        obtain ⟨g, rfl, cc⟩ := HAT.out k c hc
        have c0 : wr.cell? ⟨g, k * 4, none⟩ = some (.float .f64 (c.getD 0 0)) := cc wr HB.out 0 (by decide)
        have c1 : wr.cell? ⟨g, k * 4 + 1, none⟩ = some (.float .f64 (c.getD 1 0)) := cc wr HB.out 1 (by decide)
        have c2 : wr.cell? ⟨g, k * 4 + 2, none⟩ = some (.float .f64 0) := cc wr HB.out 2 (by decide)
        have c3 : wr.cell? ⟨g, k * 4 + 3, none⟩ = some (.float .f64 (c.getD 2 0)) := cc wr HB.out 3 (by decide)
        have hcl : c.length = 3 := HP.out c (List.mem_of_getElem? hc)
        have hch : fl c = [.float .f64 (c.getD 0 0), .float .f64 (c.getD 1 0), .float .f64 (c.getD 2 0)] := by rw [chunk3 hcl]; rfl
        have htk : P.take (k + 1) = P.take k ++ [c] := by rw [List.take_add_one, hc]; rfl
        have HTK := Lib.hid htk
        have HCH := Lib.hid hch
        have hXr := HB.out.size
        have hne : ∀ j, Value.ownBlock u5 = some j → j < wr.heap.size := fun j e => (HOW.out.lt j e).2
        have HNE := Lib.hid hne
        clear cc hc hk hown hb hcl hch htk hne
        have hst := fun (W : World) (j : Nat) (x : Nat) => run_store Tryz.prog W ⟨wr.heap.size, j, none⟩ (.float .f64 x) .plain rfl
        go_wp2_with (at_builtin; refine wpList_append_own _ rfl _ _ 30 rfl w.heap.size 79 i0 (.float .f64 0) 1 8 Tryz.underlying30 hi hz0 hz1 hz2 rfl (by decide) _ _ _ rfl ((HOW.out.alloc _).alloc _) ⟨wr.heap.size + 1, 0, none⟩ 2 2 [.float .f64 (c.getD 0 0), .float .f64 (c.getD 1 0)] rfl rfl ?c1x0d2 ?c2x0d2 ?c3x0d2 ?c4x0d2 ?c5x0d2 ?_)
        first
          | (case c1x0d2 => exact World.news_of_block (heap_alloc2_new _ _ _))
          | skip
        first | (case c2x0d2 => first | rfl | (exact ⟨rfl, rfl⟩) | (intro u hu; simp at hu; rcases hu with rfl | rfl <;> rfl) | (intro u hu; simp at hu; subst hu; rfl)) | skip
        first | (case c3x0d2 => unfold maxLen; omega) | skip
        first | (case c4x0d2 => omega) | skip
        first | (case c5x0d2 => first | omega | (simp; omega)) | skip
        intro v1 w1 hown1 hgrow1 _
        have hblk1 := (hgrow1.block wr.heap.size (by simp; omega) (fun e => absurd (HNE.out _ e.symm) (Nat.lt_irrefl _))).trans (heap_alloc2_old wr _ _)
        have hb1 : Below w.heap.size w w1 := ((HB.out.alloc hXr _).alloc (by simp; omega) _).grown hgrow1 (by simp; omega) (fun j e => (HOW.out.lt j e).1)
        have HO1 := Lib.hid hown1
        have HB1 := Lib.hid hb1
        have hs1 := hb1.size
        obtain ⟨m00, m01, m02, m03⟩ := cell_four hblk1
        clear hown1 hgrow1 hb1
        go_wp2_with (at_builtin; refine wpList_append_own _ rfl _ _ 30 rfl w.heap.size 79 i0 (.float .f64 0) 1 8 Tryz.underlying30 hi hz0 hz1 hz2 rfl (by decide) _ _ _ rfl (HO1.out.alloc _) ⟨w1.heap.size, 0, none⟩ 1 1 [.float .f64 (c.getD 2 0)] rfl rfl ?c1x1d2 ?c2x1d2 ?c3x1d2 ?c4x1d2 ?c5x1d2 ?_)
        first
          | (case c1x1d2 => exact World.news_of_block (heap_alloc_new _ _))
          | skip
        first | (case c2x1d2 => first | rfl | (exact ⟨rfl, rfl⟩) | (intro u hu; simp at hu; rcases hu with rfl | rfl <;> rfl) | (intro u hu; simp at hu; subst hu; rfl)) | skip
        first | (case c3x1d2 => unfold maxLen; omega) | skip
        first | (case c4x1d2 => omega) | skip
        first | (case c5x1d2 => first | omega | (simp; omega)) | skip
        intro v2 w2 hown2 hgrow2 _
        have hblk2 := (hgrow2.block wr.heap.size (by simp; have := Lib.lt_of_heap hblk1; omega) (own_ne HO1.out hblk1 (by decide))).trans ((Below.heap_alloc w1 _ _ (Lib.lt_of_heap hblk1)).trans hblk1)
        have hb2 : Below w.heap.size w w2 := (HB1.out.alloc HB1.out.size _).grown hgrow2 (by simp; have := HB1.out.size; omega) (fun j e => (HO1.out.lt j e).1)
        have HO2 := Lib.hid hown2
        have HB2 := Lib.hid hb2
        have hs2 := hb2.size
        clear hown2 hgrow2 hb2 hblk2
        go_wp2
        go_roundg (gk - 1)
        case measure => have := HK.out; omega
        case rel =>
          refine ⟨k + 1, by go_num, by have := HK.out; omega, ?_, HB2.out⟩
          have h5 := HO2.out
          rw [HTK.out, List.flatten_append, ← fl_app, List.flatten_cons, List.flatten_nil, List.append_nil, HCH.out, Nat.add_mul, Nat.one_mul]
          simpa [List.append_assoc, Nat.add_assoc] using h5
      · have hlt' : ¬ (k : Int) < P.length := by omega
        have hkP : k = P.length := by omega
        have hfl : P.flatten.length = P.length * 3 := flat_len HP.out
        have hO2 := HOW.out
        rw [hkP, List.take_length, ← hfl, HX.out] at hO2
        have HO2 := Lib.hid hO2
        clear hO2 hkP hown hb hfl hk
        go_wp2
        go_ret
        exact ⟨⟨_, rfl, HO2.out⟩, HB.out⟩
  · go_enter Tryz.func48, Tryz.ntmps48
    go_wp2
    go_loopg [5, 10] P.length (fun G s5 s10 wr => ∃ k : Nat, s10 = .int .i64 k ∧ k + G = P.length ∧ wr.ownsRow w.heap.size 79 1 s5 (k * 4) (fl (P.take k).flatten) ∧ Below w.heap.size w wr)
    case atStart => exact ⟨0, rfl, by omega, by rw [Nat.zero_mul]; exact World.ownsRow_nil _ _ _ _, Below.refl _ _⟩
    case round =>
      obtain ⟨k, rfl, hk, hown, hb⟩ := hrel
      have HK := Lib.hid hk
      have HOW := Lib.hid hown
      have HB := Lib.hid hb
      by_cases hlt : k < P.length
      · obtain ⟨c, hc⟩ : ∃ c, P[k]? = some c := ⟨_, List.getElem?_eq_getElem hlt⟩
        have hlt' : (k : Int) < P.length := by omega
        obtain ⟨g, rfl, cc⟩ := HAT.out k c hc
        have c0 : wr.cell? ⟨g, k * 4, none⟩ = some (.float .f64 (c.getD 0 0)) := cc wr HB.out 0 (by decide)
        have c1 : wr.cell? ⟨g, k * 4 + 1, none⟩ = some (.float .f64 (c.getD 1 0)) := cc wr HB.out 1 (by decide)
        have c2 : wr.cell? ⟨g, k * 4 + 2, none⟩ = some (.float .f64 (c.getD 2 0)) := cc wr HB.out 2 (by decide)
        have c3 : wr.cell? ⟨g, k * 4 + 3, none⟩ = some (.float .f64 (c.getD 3 0)) := cc wr HB.out 3 (by decide)
        have hcl : c.length = 4 := HP.out c (List.mem_of_getElem? hc)
        have hch : fl c = [.float .f64 (c.getD 0 0), .float .f64 (c.getD 1 0), .float .f64 (c.getD 2 0), .float .f64 (c.getD 3 0)] := by rw [chunk4 hcl]; rfl
        have htk : P.take (k + 1) = P.take k ++ [c] := by rw [List.take_add_one, hc]; rfl
        have HTK := Lib.hid htk
        have HCH := Lib.hid hch
        have hXr := HB.out.size
        have hne : ∀ j, Value.ownBlock u5 = some j → j < wr.heap.size := fun j e => (HOW.out.lt j e).2
        have HNE := Lib.hid hne
        clear cc hc hk hown hb hcl hch htk hne
        have hst := fun (W : World) (j : Nat) (x : Nat) => run_store Tryz.prog W ⟨wr.heap.size, j, none⟩ (.float .f64 x) .plain rfl
        go_wp2_with (at_builtin; refine wpList_append_own _ rfl _ _ 30 rfl w.heap.size 79 i0 (.float .f64 0) 1 8 Tryz.underlying30 hi hz0 hz1 hz2 rfl (by decide) _ _ _ rfl ((HOW.out.alloc _).alloc _) ⟨wr.heap.size + 1, 0, none⟩ 2 2 [.float .f64 (c.getD 0 0), .float .f64 (c.getD 1 0)] rfl rfl ?c1x0d3 ?c2x0d3 ?c3x0d3 ?c4x0d3 ?c5x0d3 ?_)
        first
          | (case c1x0d3 => exact World.news_of_block (heap_alloc2_new _ _ _))
          | skip
        first | (case c2x0d3 => first | rfl | (exact ⟨rfl, rfl⟩) | (intro u hu; simp at hu; rcases hu with rfl | rfl <;> rfl) | (intro u hu; simp at hu; subst hu; rfl)) | skip
        first | (case c3x0d3 => unfold maxLen; omega) | skip
        first | (case c4x0d3 => omega) | skip
        first | (case c5x0d3 => first | omega | (simp; omega)) | skip
        intro v1 w1 hown1 hgrow1 _
        have hblk1 := (hgrow1.block wr.heap.size (by simp; omega) (fun e => absurd (HNE.out _ e.symm) (Nat.lt_irrefl _))).trans (heap_alloc2_old wr _ _)
        have hb1 : Below w.heap.size w w1 := ((HB.out.alloc hXr _).alloc (by simp; omega) _).grown hgrow1 (by simp; omega) (fun j e => (HOW.out.lt j e).1)
        have HO1 := Lib.hid hown1
        have HB1 := Lib.hid hb1
        have hs1 := hb1.size
        obtain ⟨m00, m01, m02, m03⟩ := cell_four hblk1
        clear hown1 hgrow1 hb1
        go_wp2_with (at_builtin; refine wpList_append_own _ rfl _ _ 30 rfl w.heap.size 79 i0 (.float .f64 0) 1 8 Tryz.underlying30 hi hz0 hz1 hz2 rfl (by decide) _ _ _ rfl (HO1.out.alloc _) ⟨w1.heap.size, 0, none⟩ 1 1 [.float .f64 (c.getD 2 0)] rfl rfl ?c1x1d3 ?c2x1d3 ?c3x1d3 ?c4x1d3 ?c5x1d3 ?_)
        first
          | (case c1x1d3 => exact World.news_of_block (heap_alloc_new _ _))
          | skip
        first | (case c2x1d3 => first | rfl | (exact ⟨rfl, rfl⟩) | (intro u hu; simp at hu; rcases hu with rfl | rfl <;> rfl) | (intro u hu; simp at hu; subst hu; rfl)) | skip
        first | (case c3x1d3 => unfold maxLen; omega) | skip
        first | (case c4x1d3 => omega) | skip
        first | (case c5x1d3 => first | omega | (simp; omega)) | skip
        intro v2 w2 hown2 hgrow2 _
        have hblk2 := (hgrow2.block wr.heap.size (by simp; have := Lib.lt_of_heap hblk1; omega) (own_ne HO1.out hblk1 (by decide))).trans ((Below.heap_alloc w1 _ _ (Lib.lt_of_heap hblk1)).trans hblk1)
        have hb2 : Below w.heap.size w w2 := (HB1.out.alloc HB1.out.size _).grown hgrow2 (by simp; have := HB1.out.size; omega) (fun j e => (HO1.out.lt j e).1)
        have HO2 := Lib.hid hown2
        have HB2 := Lib.hid hb2
        have hs2 := hb2.size
        obtain ⟨m10, m11, m12, m13⟩ := cell_four hblk2
        clear hown2 hgrow2 hb2
        go_wp2_with (at_builtin; refine wpList_append_own _ rfl _ _ 30 rfl w.heap.size 79 i0 (.float .f64 0) 1 8 Tryz.underlying30 hi hz0 hz1 hz2 rfl (by decide) _ _ _ rfl (HO2.out.alloc _) ⟨w2.heap.size, 0, none⟩ 1 1 [.float .f64 (c.getD 3 0)] rfl rfl ?c1x2d3 ?c2x2d3 ?c3x2d3 ?c4x2d3 ?c5x2d3 ?_)
        first
          | (case c1x2d3 => exact World.news_of_block (heap_alloc_new _ _))
          | skip
        first | (case c2x2d3 => first | rfl | (exact ⟨rfl, rfl⟩) | (intro u hu; simp at hu; rcases hu with rfl | rfl <;> rfl) | (intro u hu; simp at hu; subst hu; rfl)) | skip
        first | (case c3x2d3 => unfold maxLen; omega) | skip
        first | (case c4x2d3 => omega) | skip
        first | (case c5x2d3 => first | omega | (simp; omega)) | skip
        intro v3 w3 hown3 hgrow3 _
        have hblk3 := (hgrow3.block wr.heap.size (by simp; have := Lib.lt_of_heap hblk2; omega) (own_ne HO2.out hblk2 (by decide))).trans ((Below.heap_alloc w2 _ _ (Lib.lt_of_heap hblk2)).trans hblk2)
        have hb3 : Below w.heap.size w w3 := (HB2.out.alloc HB2.out.size _).grown hgrow3 (by simp; have := HB2.out.size; omega) (fun j e => (HO2.out.lt j e).1)
        have HO3 := Lib.hid hown3
        have HB3 := Lib.hid hb3
        have hs3 := hb3.size
        clear hown3 hgrow3 hb3 hblk3
        go_wp2
        go_roundg (gk - 1)
        case measure => have := HK.out; omega
        case rel =>
          refine ⟨k + 1, by go_num, by have := HK.out; omega, ?_, HB3.out⟩
          have h5 := HO3.out
          rw [HTK.out, List.flatten_append, ← fl_app, List.flatten_cons, List.flatten_nil, List.append_nil, HCH.out, Nat.add_mul, Nat.one_mul]
          simpa [List.append_assoc, Nat.add_assoc] using h5
      · have hlt' : ¬ (k : Int) < P.length := by omega
        have hkP : k = P.length := by omega
        have hfl : P.flatten.length = P.length * 4 := flat_len HP.out
        have hO2 := HOW.out
        rw [hkP, List.take_length, ← hfl, HX.out] at hO2
        have HO2 := Lib.hid hO2
        clear hO2 hkP hown hb hfl hk
        go_wp2
        go_ret
        exact ⟨⟨_, rfl, HO2.out⟩, HB.out⟩
end Go.Proofs.YthfjakbpeclfcaaGreatDoor
