/-
  The implementation's plainSequence (printed by tools/mk_ib.py).
-/
import Derived.Test.YthfjakbpeclfcaaGreatDoorIa
namespace Go.Proofs.YthfjakbpeclfcaaGreatDoor
open Go.RowKit Go

theorem app_keep {W w5 : World} {o x : Obj} {v : Value} {g : Nat} (h : W.heap[g]? = some x) (hg : (W.alloc o).grownBy w5 v.ownBlock) (hne : some g ≠ v.ownBlock) : w5.heap[g]? = some x :=
  (hg.block g (by have := Lib.lt_of_heap h; simp; omega) hne).trans ((Below.heap_alloc W o g (Lib.lt_of_heap h)).trans h)
theorem pn_take {D : Nat} {P : List (List Nat)} (_hP : ∀ c ∈ P, c.length = D) {k : Nat} {c : List Nat} (hc : P[k]? = some c) : (P.take (k + 1)).flatten = (P.take k).flatten ++ c := by
  rw [List.take_add_one, hc]
  simp
theorem take_flat_len {D : Nat} {P : List (List Nat)} (hP : ∀ c ∈ P, c.length = D) {k : Nat} (hk : k ≤ P.length) : (P.take k).flatten.length = k * D := by
  have := flat_len (P := P.take k) (W := D) (fun c hc => hP c (List.mem_of_mem_take hc))
  rw [this, List.length_take, Nat.min_eq_left hk]

set_option linter.unusedSimpArgs false in
set_option maxHeartbeats 8000000 in
set_option maxRecDepth 100000 in
theorem seq_0 (X : Nat) (w : World) (ao : Option Addr) (n cp : Nat) (P : List (List Nat)) (hP : ∀ c ∈ P, c.length = 2) (hn : n = P.length * 2) (hown : w.ownsRow X 79 1 (.slice ao n cp) n (fl P.flatten)) (hlen : n ≤ 500000) :
    Calls Tryz.prog 45 #[.agg #[.int .u8 0, .slice ao n cp]] w fun e w' => (∃ v, e = .returned (.agg #[.int .i64 2, .int .i64 0, v, .slice none 0 0]) ∧ w'.ownsRow w.heap.size 79 1 v n (fl P.flatten)) ∧ Below w.heap.size w w' := by
  obtain ⟨i0, hi, hz0, hz1, hz2⟩ := info_parts inf79
  have hd2 : dimW 0 = 2 := rfl
  have hpl : P.length ≤ 500000 := by omega
  have hat : ∀ k c, P[k]? = some c → ∃ g, ao = some ⟨g, 0, none⟩ ∧ g < w.heap.size ∧ ∀ W, Below w.heap.size w W → ∀ j, j < dimW 0 → W.cell? ⟨g, k * dimW 0 + j, none⟩ = some (.float .f64 (c.getD j 0)) := by
    intro k c hk
    rw [hd2]
    have hkl := (List.getElem?_eq_some_iff.1 hk).1
    obtain ⟨g, cp', hf, -, hgs⟩ := hown.form (by omega)
    injection hf with hf _ _
    subst hf
    refine ⟨g, rfl, hgs, fun W hb j hj => ?_⟩
    have := (ownsRow_far hown hb).cellAt (k * 2 + j) (by omega)
    rw [this]
    unfold fl
    rw [List.getElem?_map, flat_at hP hk j hj]
    rfl
  have hsl := fun W => slen_any 0 (by decide) ao n cp P.length (by rw [hd2]; exact hn) hpl W
  have hsc := fun W => sct_any 0 ao n cp W
  have his3 := fun W => is3_any 0 (by decide) W
  have hism := fun W => ism_any 0 (by decide) W
  have hA := heap_alloc2_old w (.cells #[.int .u8 0, .slice ao n cp] 65) (.cells #[.int .i64 0, .int .i64 0, .slice none 0 0, .slice none 0 0] 33)
  have hB := heap_alloc2_new w (.cells #[.int .u8 0, .slice ao n cp] 65) (.cells #[.int .i64 0, .int .i64 0, .slice none 0 0, .slice none 0 0] 33)
  have hb0 : Below w.heap.size w ((w.alloc (.cells #[.int .u8 0, .slice ao n cp] 65)).alloc (.cells #[.int .i64 0, .int .i64 0, .slice none 0 0, .slice none 0 0] 33)) := ((Below.refl _ _).alloc (Nat.le_refl _) _).alloc (by simp) _
  generalize hww : (w.alloc (.cells #[.int .u8 0, .slice ao n cp] 65)).alloc (.cells #[.int .i64 0, .int .i64 0, .slice none 0 0, .slice none 0 0] 33) = W1 at *
  have HWW := Lib.hid hww
  have HAT := Lib.hid hat
  have HP := Lib.hid hP
  have HNn := Lib.hid hn
  have HA := Lib.hid hA
  have HB := Lib.hid hB
  have HB0 := Lib.hid hb0
  have hlt1 := Lib.lt_of_heap hB
  obtain ⟨a0, a1⟩ := cell_two hA
  clear hat hA hB hb0 hww hown hP hn
  go_enter Tryz.func45, Tryz.ntmps45
  go_wp2_with fail
  erw [HWW.out]
  refine (hsc _).mono ?_
  rintro e w2 ⟨rfl, hb2⟩
  have hA2 := (hb2.block _ (Lib.lt_of_heap HA.out)).trans HA.out
  have hB2 := (hb2.block _ (Lib.lt_of_heap HB.out)).trans HB.out
  have h3 := heap_alloc_new w2 (.cells #[.int .i64 2, .int .i64 0, .slice none 0 0, .slice none 0 0] 33)
  have hA3 := (Below.heap_alloc w2 (.cells #[.int .i64 2, .int .i64 0, .slice none 0 0, .slice none 0 0] 33) _ (Lib.lt_of_heap hA2)).trans hA2
  have hB3 := (Below.heap_alloc w2 (.cells #[.int .i64 2, .int .i64 0, .slice none 0 0, .slice none 0 0] 33) _ (Lib.lt_of_heap hB2)).trans hB2
  have hb3 := (HB0.out.trans (below_far hb2 HB0.out.size)).alloc (Nat.le_trans HB0.out.size hb2.size) (.cells #[.int .i64 2, .int .i64 0, .slice none 0 0, .slice none 0 0] 33)
  have hlt2 := hb2.size
  have HA3 := Lib.hid hA3
  have HB3 := Lib.hid hB3
  have H3 := Lib.hid h3
  have HBB := Lib.hid hb3
  clear hb2 hA2 hB2 hA3 hB3 h3 hb3 a0 a1
  go_wp2
  go_loopg [4] P.length (fun Gm s4 wr => ∃ (k : Nat) (kv : Value), s4 = .int .i64 k ∧ k + Gm = P.length ∧ wr.heap[w.heap.size]? = some (.cells #[.int .u8 0, .slice ao n cp] 65 (0, 0)) ∧ wr.heap[w.heap.size + 1]? = some (.cells #[.int .i64 0, .int .i64 0, .slice none 0 0, .slice none 0 0] 33 (0, 0)) ∧
    wr.heap[w2.heap.size]? = some (.cells #[.int .i64 2, .int .i64 0, kv, .slice none 0 0] 33 (0, 0)) ∧ wr.ownsRow (w2.heap.size + 1) 79 1 kv (k * 2) (fl (P.take k).flatten) ∧ Below w.heap.size w wr)
  case atStart => exact ⟨0, .slice none 0 0, rfl, by omega, HA3.out, HB3.out, H3.out, by rw [Nat.zero_mul]; exact World.ownsRow_nil _ _ _ _, HBB.out⟩
  case round =>
    obtain ⟨k, kv, rfl, hk, hA, hB, hC, hO, hb⟩ := hrel
    have HK := Lib.hid hk
    have HA := Lib.hid hA
    have HB := Lib.hid hB
    have HC := Lib.hid hC
    have HO := Lib.hid hO
    have HBr := Lib.hid hb
    obtain ⟨a0, a1⟩ := cell_two hA
    clear hk hA hB hC hO hb
    by_cases hlt : k < P.length
    · have hlt' : (k : Int) < P.length := by omega
      obtain ⟨c, hc⟩ : ∃ c, P[k]? = some c := ⟨_, List.getElem?_eq_getElem hlt⟩
      obtain ⟨g, rfl, hg, hcat⟩ := HAT.out k c hc
      have hkn : k * 2 + 2 ≤ n := by have := HNn.out; omega
      have hget : ∀ W, Below wr.heap.size wr W → Calls Tryz.prog 61 #[.agg #[.int .u8 0, .slice (some ⟨g, 0, none⟩) n cp], .int .i64 k] W fun e w' => e = .returned (.agg #[.float .f64 (c.getD 0 0), .float .f64 (c.getD 1 0), .float .f64 0, .float .f64 0, .int .u8 0]) ∧ Below W.heap.size W w' := by
        intro W hW
        have hbW := HBr.out.trans (below_far hW HBr.out.size)
        exact get_any 0 (by decide) g n cp k c W hkn hlen (Nat.lt_of_lt_of_le hg hbW.size) (fun W' hW' j hj => hcat W' (hbW.trans (below_far hW' hbW.size)) j hj)
      have HG := Lib.hid hget
      have hcl := HP.out c (List.mem_of_getElem? hc)
      have HT := Lib.hid (pn_take HP.out hc)
      have HCL := Lib.hid hcl
      have hce : c = [c.getD 0 0, c.getD 1 0] := by
        match c, hcl with
        | [x0, x1], _ => rfl
      have HCE := Lib.hid hce
      clear hc hcat hget hcl hce
      go_wp2_with fail
      refine (hsl _).mono ?_
      rintro e w3 ⟨rfl, hb3⟩
      have hA3 := rb_far HA.out hb3
      obtain ⟨e0, e1⟩ := cell_two hA3
      have hgg := HG.out w3 hb3
      have HB3 := Lib.hid hb3
      clear hb3 hA3
      go_upto_region 5 with fail
      go_cut [5] (fun s5 wx => ∃ q, s5 = .pointer (some ⟨q, 0, none⟩) ∧ wx.heap[q]? = some (.cells #[.float .f64 (c.getD 0 0), .float .f64 (c.getD 1 0), .float .f64 0, .float .f64 0, .int .u8 0] 126 (0, 0)) ∧ Below wr.heap.size wr wx ∧ wr.heap.size ≤ q)
      case first =>
        go_wp2_with fail
        refine hgg.mono ?_
        rintro e w4 ⟨rfl, hb4⟩
        have hst := fun (W : World) (j : Nat) (x : Nat) => run_store Tryz.prog W ⟨w4.heap.size, j, none⟩ (.float .f64 x) .plain rfl
        have HB4 := Lib.hid (HB3.out.trans (below_far hb4 HB3.out.size))
        clear hgg hb4
        go_wp2
        go_meet
        exact ⟨w4.heap.size, rfl, heap_alloc_new w4 _, HB4.out.alloc HB4.out.size _, HB4.out.size⟩
      case rest =>
        obtain ⟨q, rfl, hq, hbx, hqr⟩ := hcut
        have hc2 := rb_far HC.out hbx
        have hA2 := rb_far HA.out hbx
        have hB2 := rb_far HB.out hbx
        have hO2 := ownsRow_far HO.out hbx
        obtain ⟨m0, m1, m2, m3⟩ := cell_four hc2
        obtain ⟨q0, q1, q2, q3, q4⟩ := cell_five hq
        have z := Lib.frozen_of_heap hc2
        have HC2 := Lib.hid hc2
        have HA2 := Lib.hid hA2
        have HB2 := Lib.hid hB2
        have HO2 := Lib.hid hO2
        have HQ := Lib.hid hq
        have HBX := Lib.hid (HBr.out.trans (below_far hbx HBr.out.size))
        have hsw := HBX.out.size
        have hll : (P.take k).flatten.length = k * 2 := take_flat_len HP.out (by omega)
        obtain ⟨ak, ck, rfl⟩ := ownsRow_slice hO2
        have hlq := Lib.lt_of_heap hc2
        have hlw := Lib.lt_of_heap HC.out
        clear hc2 hA2 hB2 hO2 hq hbx e0 e1 a0 a1 hgg
        go_wp2_with (first | (go_at_call 62; refine (his3 _).mono ?_; rintro e w' ⟨rfl, hw⟩; have hw := hw.symm; subst hw) | (go_at_call 63; refine (hism _).mono ?_; rintro e w' ⟨rfl, hw⟩; have hw := hw.symm; subst hw) | (at_builtin; refine wpList_append_own _ rfl _ _ 30 rfl (w2.heap.size + 1) 79 i0 (.float .f64 0) 1 8 Tryz.underlying30 hi hz0 hz1 hz2 rfl (by decide) _ _ _ rfl (HO2.out.alloc _) ⟨wc.heap.size, 0, none⟩ 2 2 [.float .f64 (c.getD 0 0), .float .f64 (c.getD 1 0)] rfl rfl ?c1d0 ?c2d0 ?c3d0 ?c4d0 ?c5d0 ?_))
        first
          | (case c1d0 => exact World.news_of_block (heap_alloc_new wc _))
          | skip
        case c2d0 => first | (intro u hu; simp at hu; rcases hu with rfl | rfl <;> rfl) | (refine ⟨?_, ?_⟩ <;> rfl) | (simp [Value.oneCell'])
        case c3d0 => unfold maxLen; omega
        case c4d0 => omega
        case c5d0 => first | omega | (simp; omega)
        intro v'0 x0 hown hgrow _
        have hC := app_keep HC2.out hgrow (own_ne HO2.out HC2.out (by decide))
        have hA := app_keep HA2.out hgrow (own_ne HO2.out HA2.out (by decide))
        have hB := app_keep HB2.out hgrow (own_ne HO2.out HB2.out (by decide))
        have hQ := app_keep HQ.out hgrow (own_ne HO2.out HQ.out (by decide))
        have hX := (HBX.out.alloc HBX.out.size _).grown hgrow (by have := HBX.out.size; simp; omega) (fun j e => by have := (HO2.out.lt j e).1; omega)
        obtain ⟨av0, cv0, rfl⟩ := ownsRow_slice hown
        have hC' := Lib.heap_setCell_same (i := 2) hC (.slice av0 (k * 2 + 2) cv0)
        have hA' := (Below.heap_setCell x0 ⟨w2.heap.size, 2, none⟩ (.slice av0 (k * 2 + 2) cv0) w.heap.size (by show w.heap.size ≠ w2.heap.size; omega)).trans hA
        have hB' := (Below.heap_setCell x0 ⟨w2.heap.size, 2, none⟩ (.slice av0 (k * 2 + 2) cv0) (w.heap.size + 1) (by show w.heap.size + 1 ≠ w2.heap.size; omega)).trans hB
        have hQ' := (Below.heap_setCell x0 ⟨w2.heap.size, 2, none⟩ (.slice av0 (k * 2 + 2) cv0) q (by show q ≠ w2.heap.size; omega)).trans hQ
        have hO' := ownsRow_setCell_below hown (a := ⟨w2.heap.size, 2, none⟩) (Nat.lt_succ_self _) (.slice av0 (k * 2 + 2) cv0)
        have hX' := hX.setCell (p := ⟨w2.heap.size, 2, none⟩) (by show w.heap.size ≤ w2.heap.size; omega) (.slice av0 (k * 2 + 2) cv0)
        have hsz0 : q < x0.heap.size := Lib.lt_of_heap hQ
        clear m0 m1 m2 m3 q0 q1 q2 q3 q4 z
        obtain ⟨m0, m1, m2, m3⟩ := cell_four hC
        obtain ⟨q0, q1, q2, q3, q4⟩ := cell_five hQ
        have z := Lib.frozen_of_heap hC
        have HC3 := Lib.hid hC'
        have HA3 := Lib.hid hA'
        have HB3 := Lib.hid hB'
        have HQ3 := Lib.hid hQ'
        have HO3 := Lib.hid hO'
        have HX3 := Lib.hid hX'
        clear hC hA hB hQ hX hC' hA' hB' hQ' hO' hX' hown hgrow
        go_wp2_with (first | (go_at_call 62; refine (his3 _).mono ?_; rintro e w' ⟨rfl, hw⟩; have hw := hw.symm; subst hw) | (go_at_call 63; refine (hism _).mono ?_; rintro e w' ⟨rfl, hw⟩; have hw := hw.symm; subst hw))
        go_roundg (gk - 1)
        case measure => have := HK.out; omega
        case rel =>
          refine ⟨k + 1, _, by go_num, by have := HK.out; omega, HA3.out, HB3.out, HC3.out, ?_, HX3.out⟩
          have ho := HO3.out
          rw [show (k + 1) * 2 = k * 2 + 2 from by omega, HT.out, HCE.out]
          simp only [fl, List.map_append, List.map_cons, List.map_nil, List.append_assoc, List.cons_append, List.nil_append] at ho ⊢
          exact ho
    · have hlt' : ¬ (k : Int) < P.length := by omega
      have hkP : k = P.length := by have := HK.out; omega
      go_wp2_with fail
      refine (hsl _).mono ?_
      rintro e w3 ⟨rfl, hb3⟩
      have hA3 := rb_far HA.out hb3
      have hB3 := rb_far HB.out hb3
      have hC3 := rb_far HC.out hb3
      have hO3 := ownsRow_far HO.out hb3
      have hX3 := HBr.out.trans (below_far hb3 HBr.out.size)
      rw [hkP, ← HNn.out, List.take_length] at hO3
      obtain ⟨ak, ck, rfl⟩ := ownsRow_slice hO3
      obtain ⟨b0, b1, b2, b3⟩ := cell_four hB3
      obtain ⟨c0, c1, c2, c3⟩ := cell_four hC3
      have z := Lib.frozen_of_heap hB3
      have HB4 := Lib.hid hB3
      have HO4 := Lib.hid hO3
      have HX4 := Lib.hid hX3
      clear hA3 hB3 hC3 hO3 hX3 hb3 hkP
      go_wp2
      refine bodyPost_ret (res_cell rfl _ _ (w.heap.size + 1) 33 #[_, _, _, _] (0, 0) _ rfl (f4_heap HB4.out) Tryz.underlying33 (by kernel_rfl)) rfl ?_
      exact ⟨⟨_, rfl, ownsRow_mono (f4_ownB HO4.out (by omega)) (by omega)⟩, HX4.out.trans ((Below.refl w.heap.size _).grown f4_grown HX4.out.size (fun k e => by injection e with e; omega))⟩

set_option linter.unusedSimpArgs false in
set_option maxHeartbeats 8000000 in
set_option maxRecDepth 100000 in
theorem seq_1 (X : Nat) (w : World) (ao : Option Addr) (n cp : Nat) (P : List (List Nat)) (hP : ∀ c ∈ P, c.length = 3) (hn : n = P.length * 3) (hown : w.ownsRow X 79 1 (.slice ao n cp) n (fl P.flatten)) (hlen : n ≤ 500000) :
    Calls Tryz.prog 45 #[.agg #[.int .u8 1, .slice ao n cp]] w fun e w' => (∃ v, e = .returned (.agg #[.int .i64 2, .int .i64 1, v, .slice none 0 0]) ∧ w'.ownsRow w.heap.size 79 1 v n (fl P.flatten)) ∧ Below w.heap.size w w' := by
  obtain ⟨i0, hi, hz0, hz1, hz2⟩ := info_parts inf79
  have hd2 : dimW 1 = 3 := rfl
  have hpl : P.length ≤ 500000 := by omega
  have hat : ∀ k c, P[k]? = some c → ∃ g, ao = some ⟨g, 0, none⟩ ∧ g < w.heap.size ∧ ∀ W, Below w.heap.size w W → ∀ j, j < dimW 1 → W.cell? ⟨g, k * dimW 1 + j, none⟩ = some (.float .f64 (c.getD j 0)) := by
    intro k c hk
    rw [hd2]
    have hkl := (List.getElem?_eq_some_iff.1 hk).1
    obtain ⟨g, cp', hf, -, hgs⟩ := hown.form (by omega)
    injection hf with hf _ _
    subst hf
    refine ⟨g, rfl, hgs, fun W hb j hj => ?_⟩
    have := (ownsRow_far hown hb).cellAt (k * 3 + j) (by omega)
    rw [this]
    unfold fl
    rw [List.getElem?_map, flat_at hP hk j hj]
    rfl
  have hsl := fun W => slen_any 1 (by decide) ao n cp P.length (by rw [hd2]; exact hn) hpl W
  have hsc := fun W => sct_any 1 ao n cp W
  have his3 := fun W => is3_any 1 (by decide) W
  have hism := fun W => ism_any 1 (by decide) W
  have hA := heap_alloc2_old w (.cells #[.int .u8 1, .slice ao n cp] 65) (.cells #[.int .i64 0, .int .i64 0, .slice none 0 0, .slice none 0 0] 33)
  have hB := heap_alloc2_new w (.cells #[.int .u8 1, .slice ao n cp] 65) (.cells #[.int .i64 0, .int .i64 0, .slice none 0 0, .slice none 0 0] 33)
  have hb0 : Below w.heap.size w ((w.alloc (.cells #[.int .u8 1, .slice ao n cp] 65)).alloc (.cells #[.int .i64 0, .int .i64 0, .slice none 0 0, .slice none 0 0] 33)) := ((Below.refl _ _).alloc (Nat.le_refl _) _).alloc (by simp) _
  generalize hww : (w.alloc (.cells #[.int .u8 1, .slice ao n cp] 65)).alloc (.cells #[.int .i64 0, .int .i64 0, .slice none 0 0, .slice none 0 0] 33) = W1 at *
  have HWW := Lib.hid hww
  have HAT := Lib.hid hat
  have HP := Lib.hid hP
  have HNn := Lib.hid hn
  have HA := Lib.hid hA
  have HB := Lib.hid hB
  have HB0 := Lib.hid hb0
  have hlt1 := Lib.lt_of_heap hB
  obtain ⟨a0, a1⟩ := cell_two hA
  clear hat hA hB hb0 hww hown hP hn
  go_enter Tryz.func45, Tryz.ntmps45
  go_wp2_with fail
  erw [HWW.out]
  refine (hsc _).mono ?_
  rintro e w2 ⟨rfl, hb2⟩
  have hA2 := (hb2.block _ (Lib.lt_of_heap HA.out)).trans HA.out
  have hB2 := (hb2.block _ (Lib.lt_of_heap HB.out)).trans HB.out
  have h3 := heap_alloc_new w2 (.cells #[.int .i64 2, .int .i64 1, .slice none 0 0, .slice none 0 0] 33)
  have hA3 := (Below.heap_alloc w2 (.cells #[.int .i64 2, .int .i64 1, .slice none 0 0, .slice none 0 0] 33) _ (Lib.lt_of_heap hA2)).trans hA2
  have hB3 := (Below.heap_alloc w2 (.cells #[.int .i64 2, .int .i64 1, .slice none 0 0, .slice none 0 0] 33) _ (Lib.lt_of_heap hB2)).trans hB2
  have hb3 := (HB0.out.trans (below_far hb2 HB0.out.size)).alloc (Nat.le_trans HB0.out.size hb2.size) (.cells #[.int .i64 2, .int .i64 1, .slice none 0 0, .slice none 0 0] 33)
  have hlt2 := hb2.size
  have HA3 := Lib.hid hA3
  have HB3 := Lib.hid hB3
  have H3 := Lib.hid h3
  have HBB := Lib.hid hb3
  clear hb2 hA2 hB2 hA3 hB3 h3 hb3 a0 a1
  go_wp2
  go_loopg [4] P.length (fun Gm s4 wr => ∃ (k : Nat) (kv : Value), s4 = .int .i64 k ∧ k + Gm = P.length ∧ wr.heap[w.heap.size]? = some (.cells #[.int .u8 1, .slice ao n cp] 65 (0, 0)) ∧ wr.heap[w.heap.size + 1]? = some (.cells #[.int .i64 0, .int .i64 0, .slice none 0 0, .slice none 0 0] 33 (0, 0)) ∧
    wr.heap[w2.heap.size]? = some (.cells #[.int .i64 2, .int .i64 1, kv, .slice none 0 0] 33 (0, 0)) ∧ wr.ownsRow (w2.heap.size + 1) 79 1 kv (k * 3) (fl (P.take k).flatten) ∧ Below w.heap.size w wr)
  case atStart => exact ⟨0, .slice none 0 0, rfl, by omega, HA3.out, HB3.out, H3.out, by rw [Nat.zero_mul]; exact World.ownsRow_nil _ _ _ _, HBB.out⟩
  case round =>
    obtain ⟨k, kv, rfl, hk, hA, hB, hC, hO, hb⟩ := hrel
    have HK := Lib.hid hk
    have HA := Lib.hid hA
    have HB := Lib.hid hB
    have HC := Lib.hid hC
    have HO := Lib.hid hO
    have HBr := Lib.hid hb
    obtain ⟨a0, a1⟩ := cell_two hA
    clear hk hA hB hC hO hb
    by_cases hlt : k < P.length
    · have hlt' : (k : Int) < P.length := by omega
      obtain ⟨c, hc⟩ : ∃ c, P[k]? = some c := ⟨_, List.getElem?_eq_getElem hlt⟩
      obtain ⟨g, rfl, hg, hcat⟩ := HAT.out k c hc
      have hkn : k * 3 + 3 ≤ n := by have := HNn.out; omega
      have hget : ∀ W, Below wr.heap.size wr W → Calls Tryz.prog 61 #[.agg #[.int .u8 1, .slice (some ⟨g, 0, none⟩) n cp], .int .i64 k] W fun e w' => e = .returned (.agg #[.float .f64 (c.getD 0 0), .float .f64 (c.getD 1 0), .float .f64 (c.getD 2 0), .float .f64 0, .int .u8 1]) ∧ Below W.heap.size W w' := by
        intro W hW
        have hbW := HBr.out.trans (below_far hW HBr.out.size)
        exact get_any 1 (by decide) g n cp k c W hkn hlen (Nat.lt_of_lt_of_le hg hbW.size) (fun W' hW' j hj => hcat W' (hbW.trans (below_far hW' hbW.size)) j hj)
      have HG := Lib.hid hget
      have hcl := HP.out c (List.mem_of_getElem? hc)
      have HT := Lib.hid (pn_take HP.out hc)
      have HCL := Lib.hid hcl
      have hce : c = [c.getD 0 0, c.getD 1 0, c.getD 2 0] := by
        match c, hcl with
        | [x0, x1, x2], _ => rfl
      have HCE := Lib.hid hce
      clear hc hcat hget hcl hce
      go_wp2_with fail
      refine (hsl _).mono ?_
      rintro e w3 ⟨rfl, hb3⟩
      have hA3 := rb_far HA.out hb3
      obtain ⟨e0, e1⟩ := cell_two hA3
      have hgg := HG.out w3 hb3
      have HB3 := Lib.hid hb3
      clear hb3 hA3
      go_upto_region 5 with fail
      go_cut [5] (fun s5 wx => ∃ q, s5 = .pointer (some ⟨q, 0, none⟩) ∧ wx.heap[q]? = some (.cells #[.float .f64 (c.getD 0 0), .float .f64 (c.getD 1 0), .float .f64 (c.getD 2 0), .float .f64 0, .int .u8 1] 126 (0, 0)) ∧ Below wr.heap.size wr wx ∧ wr.heap.size ≤ q)
      case first =>
        go_wp2_with fail
        refine hgg.mono ?_
        rintro e w4 ⟨rfl, hb4⟩
        have hst := fun (W : World) (j : Nat) (x : Nat) => run_store Tryz.prog W ⟨w4.heap.size, j, none⟩ (.float .f64 x) .plain rfl
        have HB4 := Lib.hid (HB3.out.trans (below_far hb4 HB3.out.size))
        clear hgg hb4
        go_wp2
        go_meet
        exact ⟨w4.heap.size, rfl, heap_alloc_new w4 _, HB4.out.alloc HB4.out.size _, HB4.out.size⟩
      case rest =>
        obtain ⟨q, rfl, hq, hbx, hqr⟩ := hcut
        have hc2 := rb_far HC.out hbx
        have hA2 := rb_far HA.out hbx
        have hB2 := rb_far HB.out hbx
        have hO2 := ownsRow_far HO.out hbx
        obtain ⟨m0, m1, m2, m3⟩ := cell_four hc2
        obtain ⟨q0, q1, q2, q3, q4⟩ := cell_five hq
        have z := Lib.frozen_of_heap hc2
        have HC2 := Lib.hid hc2
        have HA2 := Lib.hid hA2
        have HB2 := Lib.hid hB2
        have HO2 := Lib.hid hO2
        have HQ := Lib.hid hq
        have HBX := Lib.hid (HBr.out.trans (below_far hbx HBr.out.size))
        have hsw := HBX.out.size
        have hll : (P.take k).flatten.length = k * 3 := take_flat_len HP.out (by omega)
        obtain ⟨ak, ck, rfl⟩ := ownsRow_slice hO2
        have hlq := Lib.lt_of_heap hc2
        have hlw := Lib.lt_of_heap HC.out
        clear hc2 hA2 hB2 hO2 hq hbx e0 e1 a0 a1 hgg
        go_wp2_with (first | (go_at_call 62; refine (his3 _).mono ?_; rintro e w' ⟨rfl, hw⟩; have hw := hw.symm; subst hw) | (go_at_call 63; refine (hism _).mono ?_; rintro e w' ⟨rfl, hw⟩; have hw := hw.symm; subst hw) | (at_builtin; refine wpList_append_own _ rfl _ _ 30 rfl (w2.heap.size + 1) 79 i0 (.float .f64 0) 1 8 Tryz.underlying30 hi hz0 hz1 hz2 rfl (by decide) _ _ _ rfl (HO2.out.alloc _) ⟨wc.heap.size, 0, none⟩ 2 2 [.float .f64 (c.getD 0 0), .float .f64 (c.getD 1 0)] rfl rfl ?c1d0 ?c2d0 ?c3d0 ?c4d0 ?c5d0 ?_))
        first
          | (case c1d0 => exact World.news_of_block (heap_alloc_new wc _))
          | skip
        case c2d0 => first | (intro u hu; simp at hu; rcases hu with rfl | rfl <;> rfl) | (refine ⟨?_, ?_⟩ <;> rfl) | (simp [Value.oneCell'])
        case c3d0 => unfold maxLen; omega
        case c4d0 => omega
        case c5d0 => first | omega | (simp; omega)
        intro v'0 x0 hown hgrow _
        have hC := app_keep HC2.out hgrow (own_ne HO2.out HC2.out (by decide))
        have hA := app_keep HA2.out hgrow (own_ne HO2.out HA2.out (by decide))
        have hB := app_keep HB2.out hgrow (own_ne HO2.out HB2.out (by decide))
        have hQ := app_keep HQ.out hgrow (own_ne HO2.out HQ.out (by decide))
        have hX := (HBX.out.alloc HBX.out.size _).grown hgrow (by have := HBX.out.size; simp; omega) (fun j e => by have := (HO2.out.lt j e).1; omega)
        obtain ⟨av0, cv0, rfl⟩ := ownsRow_slice hown
        have hC' := Lib.heap_setCell_same (i := 2) hC (.slice av0 (k * 3 + 2) cv0)
        have hA' := (Below.heap_setCell x0 ⟨w2.heap.size, 2, none⟩ (.slice av0 (k * 3 + 2) cv0) w.heap.size (by show w.heap.size ≠ w2.heap.size; omega)).trans hA
        have hB' := (Below.heap_setCell x0 ⟨w2.heap.size, 2, none⟩ (.slice av0 (k * 3 + 2) cv0) (w.heap.size + 1) (by show w.heap.size + 1 ≠ w2.heap.size; omega)).trans hB
        have hQ' := (Below.heap_setCell x0 ⟨w2.heap.size, 2, none⟩ (.slice av0 (k * 3 + 2) cv0) q (by show q ≠ w2.heap.size; omega)).trans hQ
        have hO' := ownsRow_setCell_below hown (a := ⟨w2.heap.size, 2, none⟩) (Nat.lt_succ_self _) (.slice av0 (k * 3 + 2) cv0)
        have hX' := hX.setCell (p := ⟨w2.heap.size, 2, none⟩) (by show w.heap.size ≤ w2.heap.size; omega) (.slice av0 (k * 3 + 2) cv0)
        have hsz0 : q < x0.heap.size := Lib.lt_of_heap hQ
        clear m0 m1 m2 m3 q0 q1 q2 q3 q4 z
        obtain ⟨m0, m1, m2, m3⟩ := cell_four hC
        obtain ⟨q0, q1, q2, q3, q4⟩ := cell_five hQ
        have z := Lib.frozen_of_heap hC
        have HC3 := Lib.hid hC'
        have HA3 := Lib.hid hA'
        have HB3 := Lib.hid hB'
        have HQ3 := Lib.hid hQ'
        have HO3 := Lib.hid hO'
        have HX3 := Lib.hid hX'
        clear hC hA hB hQ hX hC' hA' hB' hQ' hO' hX' hown hgrow
        go_upto_region 8 with (first | (go_at_call 62; refine (his3 _).mono ?_; rintro e w' ⟨rfl, hw⟩; have hw := hw.symm; subst hw) | (go_at_call 63; refine (hism _).mono ?_; rintro e w' ⟨rfl, hw⟩; have hw := hw.symm; subst hw))
        generalize hWs : x0.setCell ⟨w2.heap.size, 2, none⟩ (.slice av0 (k * 3 + 2) cv0) = y0 at *
        have hC := HC3.out
        have hQ := HQ3.out
        have hXs := HX3.out.size
        have hlq0 := Lib.lt_of_heap hC
        clear m0 m1 m2 m3 q0 q1 q2 q3 q4 z hWs
        obtain ⟨m0, m1, m2, m3⟩ := cell_four hC
        obtain ⟨q0, q1, q2, q3, q4⟩ := cell_five hQ
        have z := Lib.frozen_of_heap hC
        clear hC hQ
        go_wp2_with (first | (go_at_call 62; refine (his3 _).mono ?_; rintro e w' ⟨rfl, hw⟩; have hw := hw.symm; subst hw) | (go_at_call 63; refine (hism _).mono ?_; rintro e w' ⟨rfl, hw⟩; have hw := hw.symm; subst hw) | (at_builtin; refine wpList_append_own _ rfl _ _ 30 rfl (w2.heap.size + 1) 79 i0 (.float .f64 0) 1 8 Tryz.underlying30 hi hz0 hz1 hz2 rfl (by decide) _ _ _ rfl (HO3.out.alloc _) ⟨y0.heap.size, 0, none⟩ 1 1 [.float .f64 (c.getD 2 0)] rfl rfl ?c1d1 ?c2d1 ?c3d1 ?c4d1 ?c5d1 ?_))
        first
          | (case c1d1 => exact World.news_of_block (heap_alloc_new y0 _))
          | skip
        case c2d1 => first | (intro u hu; simp at hu; rcases hu with rfl | rfl <;> rfl) | (refine ⟨?_, ?_⟩ <;> rfl) | (simp [Value.oneCell'])
        case c3d1 => unfold maxLen; omega
        case c4d1 => omega
        case c5d1 => first | omega | (simp; omega)
        intro v'1 x1 hown hgrow _
        have hC := app_keep HC3.out hgrow (own_ne HO3.out HC3.out (by decide))
        have hA := app_keep HA3.out hgrow (own_ne HO3.out HA3.out (by decide))
        have hB := app_keep HB3.out hgrow (own_ne HO3.out HB3.out (by decide))
        have hQ := app_keep HQ3.out hgrow (own_ne HO3.out HQ3.out (by decide))
        have hX := (HX3.out.alloc HX3.out.size _).grown hgrow (by have := HX3.out.size; simp; omega) (fun j e => by have := (HO3.out.lt j e).1; omega)
        obtain ⟨av1, cv1, rfl⟩ := ownsRow_slice hown
        have hC' := Lib.heap_setCell_same (i := 2) hC (.slice av1 (k * 3 + 2 + 1) cv1)
        have hA' := (Below.heap_setCell x1 ⟨w2.heap.size, 2, none⟩ (.slice av1 (k * 3 + 2 + 1) cv1) w.heap.size (by show w.heap.size ≠ w2.heap.size; omega)).trans hA
        have hB' := (Below.heap_setCell x1 ⟨w2.heap.size, 2, none⟩ (.slice av1 (k * 3 + 2 + 1) cv1) (w.heap.size + 1) (by show w.heap.size + 1 ≠ w2.heap.size; omega)).trans hB
        have hQ' := (Below.heap_setCell x1 ⟨w2.heap.size, 2, none⟩ (.slice av1 (k * 3 + 2 + 1) cv1) q (by show q ≠ w2.heap.size; omega)).trans hQ
        have hO' := ownsRow_setCell_below hown (a := ⟨w2.heap.size, 2, none⟩) (Nat.lt_succ_self _) (.slice av1 (k * 3 + 2 + 1) cv1)
        have hX' := hX.setCell (p := ⟨w2.heap.size, 2, none⟩) (by show w.heap.size ≤ w2.heap.size; omega) (.slice av1 (k * 3 + 2 + 1) cv1)
        have hsz1 : q < x1.heap.size := Lib.lt_of_heap hQ
        clear m0 m1 m2 m3 q0 q1 q2 q3 q4 z
        obtain ⟨m0, m1, m2, m3⟩ := cell_four hC
        obtain ⟨q0, q1, q2, q3, q4⟩ := cell_five hQ
        have z := Lib.frozen_of_heap hC
        have HC4 := Lib.hid hC'
        have HA4 := Lib.hid hA'
        have HB4 := Lib.hid hB'
        have HQ4 := Lib.hid hQ'
        have HO4 := Lib.hid hO'
        have HX4 := Lib.hid hX'
        clear hC hA hB hQ hX hC' hA' hB' hQ' hO' hX' hown hgrow
        go_wp2_with (first | (go_at_call 62; refine (his3 _).mono ?_; rintro e w' ⟨rfl, hw⟩; have hw := hw.symm; subst hw) | (go_at_call 63; refine (hism _).mono ?_; rintro e w' ⟨rfl, hw⟩; have hw := hw.symm; subst hw))
        go_roundg (gk - 1)
        case measure => have := HK.out; omega
        case rel =>
          refine ⟨k + 1, _, by go_num, by have := HK.out; omega, HA4.out, HB4.out, HC4.out, ?_, HX4.out⟩
          have ho := HO4.out
          rw [show (k + 1) * 3 = k * 3 + 2 + 1 from by omega, HT.out, HCE.out]
          simp only [fl, List.map_append, List.map_cons, List.map_nil, List.append_assoc, List.cons_append, List.nil_append] at ho ⊢
          exact ho
    · have hlt' : ¬ (k : Int) < P.length := by omega
      have hkP : k = P.length := by have := HK.out; omega
      go_wp2_with fail
      refine (hsl _).mono ?_
      rintro e w3 ⟨rfl, hb3⟩
      have hA3 := rb_far HA.out hb3
      have hB3 := rb_far HB.out hb3
      have hC3 := rb_far HC.out hb3
      have hO3 := ownsRow_far HO.out hb3
      have hX3 := HBr.out.trans (below_far hb3 HBr.out.size)
      rw [hkP, ← HNn.out, List.take_length] at hO3
      obtain ⟨ak, ck, rfl⟩ := ownsRow_slice hO3
      obtain ⟨b0, b1, b2, b3⟩ := cell_four hB3
      obtain ⟨c0, c1, c2, c3⟩ := cell_four hC3
      have z := Lib.frozen_of_heap hB3
      have HB4 := Lib.hid hB3
      have HO4 := Lib.hid hO3
      have HX4 := Lib.hid hX3
      clear hA3 hB3 hC3 hO3 hX3 hb3 hkP
      go_wp2
      refine bodyPost_ret (res_cell rfl _ _ (w.heap.size + 1) 33 #[_, _, _, _] (0, 0) _ rfl (f4_heap HB4.out) Tryz.underlying33 (by kernel_rfl)) rfl ?_
      exact ⟨⟨_, rfl, ownsRow_mono (f4_ownB HO4.out (by omega)) (by omega)⟩, HX4.out.trans ((Below.refl w.heap.size _).grown f4_grown HX4.out.size (fun k e => by injection e with e; omega))⟩

set_option linter.unusedSimpArgs false in
set_option maxHeartbeats 8000000 in
set_option maxRecDepth 100000 in
theorem seq_2 (X : Nat) (w : World) (ao : Option Addr) (n cp : Nat) (P : List (List Nat)) (hP : ∀ c ∈ P, c.length = 3) (hn : n = P.length * 3) (hown : w.ownsRow X 79 1 (.slice ao n cp) n (fl P.flatten)) (hlen : n ≤ 500000) :
    Calls Tryz.prog 45 #[.agg #[.int .u8 2, .slice ao n cp]] w fun e w' => (∃ v, e = .returned (.agg #[.int .i64 2, .int .i64 2, v, .slice none 0 0]) ∧ w'.ownsRow w.heap.size 79 1 v n (fl P.flatten)) ∧ Below w.heap.size w w' := by
  obtain ⟨i0, hi, hz0, hz1, hz2⟩ := info_parts inf79
  have hd2 : dimW 2 = 3 := rfl
  have hpl : P.length ≤ 500000 := by omega
  have hat : ∀ k c, P[k]? = some c → ∃ g, ao = some ⟨g, 0, none⟩ ∧ g < w.heap.size ∧ ∀ W, Below w.heap.size w W → ∀ j, j < dimW 2 → W.cell? ⟨g, k * dimW 2 + j, none⟩ = some (.float .f64 (c.getD j 0)) := by
    intro k c hk
    rw [hd2]
    have hkl := (List.getElem?_eq_some_iff.1 hk).1
    obtain ⟨g, cp', hf, -, hgs⟩ := hown.form (by omega)
    injection hf with hf _ _
    subst hf
    refine ⟨g, rfl, hgs, fun W hb j hj => ?_⟩
    have := (ownsRow_far hown hb).cellAt (k * 3 + j) (by omega)
    rw [this]
    unfold fl
    rw [List.getElem?_map, flat_at hP hk j hj]
    rfl
  have hsl := fun W => slen_any 2 (by decide) ao n cp P.length (by rw [hd2]; exact hn) hpl W
  have hsc := fun W => sct_any 2 ao n cp W
  have his3 := fun W => is3_any 2 (by decide) W
  have hism := fun W => ism_any 2 (by decide) W
  have hA := heap_alloc2_old w (.cells #[.int .u8 2, .slice ao n cp] 65) (.cells #[.int .i64 0, .int .i64 0, .slice none 0 0, .slice none 0 0] 33)
  have hB := heap_alloc2_new w (.cells #[.int .u8 2, .slice ao n cp] 65) (.cells #[.int .i64 0, .int .i64 0, .slice none 0 0, .slice none 0 0] 33)
  have hb0 : Below w.heap.size w ((w.alloc (.cells #[.int .u8 2, .slice ao n cp] 65)).alloc (.cells #[.int .i64 0, .int .i64 0, .slice none 0 0, .slice none 0 0] 33)) := ((Below.refl _ _).alloc (Nat.le_refl _) _).alloc (by simp) _
  generalize hww : (w.alloc (.cells #[.int .u8 2, .slice ao n cp] 65)).alloc (.cells #[.int .i64 0, .int .i64 0, .slice none 0 0, .slice none 0 0] 33) = W1 at *
  have HWW := Lib.hid hww
  have HAT := Lib.hid hat
  have HP := Lib.hid hP
  have HNn := Lib.hid hn
  have HA := Lib.hid hA
  have HB := Lib.hid hB
  have HB0 := Lib.hid hb0
  have hlt1 := Lib.lt_of_heap hB
  obtain ⟨a0, a1⟩ := cell_two hA
  clear hat hA hB hb0 hww hown hP hn
  go_enter Tryz.func45, Tryz.ntmps45
  go_wp2_with fail
  erw [HWW.out]
  refine (hsc _).mono ?_
  rintro e w2 ⟨rfl, hb2⟩
  have hA2 := (hb2.block _ (Lib.lt_of_heap HA.out)).trans HA.out
  have hB2 := (hb2.block _ (Lib.lt_of_heap HB.out)).trans HB.out
  have h3 := heap_alloc_new w2 (.cells #[.int .i64 2, .int .i64 2, .slice none 0 0, .slice none 0 0] 33)
  have hA3 := (Below.heap_alloc w2 (.cells #[.int .i64 2, .int .i64 2, .slice none 0 0, .slice none 0 0] 33) _ (Lib.lt_of_heap hA2)).trans hA2
  have hB3 := (Below.heap_alloc w2 (.cells #[.int .i64 2, .int .i64 2, .slice none 0 0, .slice none 0 0] 33) _ (Lib.lt_of_heap hB2)).trans hB2
  have hb3 := (HB0.out.trans (below_far hb2 HB0.out.size)).alloc (Nat.le_trans HB0.out.size hb2.size) (.cells #[.int .i64 2, .int .i64 2, .slice none 0 0, .slice none 0 0] 33)
  have hlt2 := hb2.size
  have HA3 := Lib.hid hA3
  have HB3 := Lib.hid hB3
  have H3 := Lib.hid h3
  have HBB := Lib.hid hb3
  clear hb2 hA2 hB2 hA3 hB3 h3 hb3 a0 a1
  go_wp2
  go_loopg [4] P.length (fun Gm s4 wr => ∃ (k : Nat) (kv : Value), s4 = .int .i64 k ∧ k + Gm = P.length ∧ wr.heap[w.heap.size]? = some (.cells #[.int .u8 2, .slice ao n cp] 65 (0, 0)) ∧ wr.heap[w.heap.size + 1]? = some (.cells #[.int .i64 0, .int .i64 0, .slice none 0 0, .slice none 0 0] 33 (0, 0)) ∧
    wr.heap[w2.heap.size]? = some (.cells #[.int .i64 2, .int .i64 2, kv, .slice none 0 0] 33 (0, 0)) ∧ wr.ownsRow (w2.heap.size + 1) 79 1 kv (k * 3) (fl (P.take k).flatten) ∧ Below w.heap.size w wr)
  case atStart => exact ⟨0, .slice none 0 0, rfl, by omega, HA3.out, HB3.out, H3.out, by rw [Nat.zero_mul]; exact World.ownsRow_nil _ _ _ _, HBB.out⟩
  case round =>
    obtain ⟨k, kv, rfl, hk, hA, hB, hC, hO, hb⟩ := hrel
    have HK := Lib.hid hk
    have HA := Lib.hid hA
    have HB := Lib.hid hB
    have HC := Lib.hid hC
    have HO := Lib.hid hO
    have HBr := Lib.hid hb
    obtain ⟨a0, a1⟩ := cell_two hA
    clear hk hA hB hC hO hb
    by_cases hlt : k < P.length
    · have hlt' : (k : Int) < P.length := by omega
      obtain ⟨c, hc⟩ : ∃ c, P[k]? = some c := ⟨_, List.getElem?_eq_getElem hlt⟩
      obtain ⟨g, rfl, hg, hcat⟩ := HAT.out k c hc
      have hkn : k * 3 + 3 ≤ n := by have := HNn.out; omega
      have hget : ∀ W, Below wr.heap.size wr W → Calls Tryz.prog 61 #[.agg #[.int .u8 2, .slice (some ⟨g, 0, none⟩) n cp], .int .i64 k] W fun e w' => e = .returned (.agg #[.float .f64 (c.getD 0 0), .float .f64 (c.getD 1 0), .float .f64 0, .float .f64 (c.getD 2 0), .int .u8 2]) ∧ Below W.heap.size W w' := by
        intro W hW
        have hbW := HBr.out.trans (below_far hW HBr.out.size)
        exact get_any 2 (by decide) g n cp k c W hkn hlen (Nat.lt_of_lt_of_le hg hbW.size) (fun W' hW' j hj => hcat W' (hbW.trans (below_far hW' hbW.size)) j hj)
      have HG := Lib.hid hget
      have hcl := HP.out c (List.mem_of_getElem? hc)
      have HT := Lib.hid (pn_take HP.out hc)
      have HCL := Lib.hid hcl
      have hce : c = [c.getD 0 0, c.getD 1 0, c.getD 2 0] := by
        match c, hcl with
        | [x0, x1, x2], _ => rfl
      have HCE := Lib.hid hce
      clear hc hcat hget hcl hce
      go_wp2_with fail
      refine (hsl _).mono ?_
      rintro e w3 ⟨rfl, hb3⟩
      have hA3 := rb_far HA.out hb3
      obtain ⟨e0, e1⟩ := cell_two hA3
      have hgg := HG.out w3 hb3
      have HB3 := Lib.hid hb3
      clear hb3 hA3
      go_upto_region 5 with fail
      go_cut [5] (fun s5 wx => ∃ q, s5 = .pointer (some ⟨q, 0, none⟩) ∧ wx.heap[q]? = some (.cells #[.float .f64 (c.getD 0 0), .float .f64 (c.getD 1 0), .float .f64 0, .float .f64 (c.getD 2 0), .int .u8 2] 126 (0, 0)) ∧ Below wr.heap.size wr wx ∧ wr.heap.size ≤ q)
      case first =>
        go_wp2_with fail
        refine hgg.mono ?_
        rintro e w4 ⟨rfl, hb4⟩
        have hst := fun (W : World) (j : Nat) (x : Nat) => run_store Tryz.prog W ⟨w4.heap.size, j, none⟩ (.float .f64 x) .plain rfl
        have HB4 := Lib.hid (HB3.out.trans (below_far hb4 HB3.out.size))
        clear hgg hb4
        go_wp2
        go_meet
        exact ⟨w4.heap.size, rfl, heap_alloc_new w4 _, HB4.out.alloc HB4.out.size _, HB4.out.size⟩
      case rest =>
        obtain ⟨q, rfl, hq, hbx, hqr⟩ := hcut
        have hc2 := rb_far HC.out hbx
        have hA2 := rb_far HA.out hbx
        have hB2 := rb_far HB.out hbx
        have hO2 := ownsRow_far HO.out hbx
        obtain ⟨m0, m1, m2, m3⟩ := cell_four hc2
        obtain ⟨q0, q1, q2, q3, q4⟩ := cell_five hq
        have z := Lib.frozen_of_heap hc2
        have HC2 := Lib.hid hc2
        have HA2 := Lib.hid hA2
        have HB2 := Lib.hid hB2
        have HO2 := Lib.hid hO2
        have HQ := Lib.hid hq
        have HBX := Lib.hid (HBr.out.trans (below_far hbx HBr.out.size))
        have hsw := HBX.out.size
        have hll : (P.take k).flatten.length = k * 3 := take_flat_len HP.out (by omega)
        obtain ⟨ak, ck, rfl⟩ := ownsRow_slice hO2
        have hlq := Lib.lt_of_heap hc2
        have hlw := Lib.lt_of_heap HC.out
        clear hc2 hA2 hB2 hO2 hq hbx e0 e1 a0 a1 hgg
        go_wp2_with (first | (go_at_call 62; refine (his3 _).mono ?_; rintro e w' ⟨rfl, hw⟩; have hw := hw.symm; subst hw) | (go_at_call 63; refine (hism _).mono ?_; rintro e w' ⟨rfl, hw⟩; have hw := hw.symm; subst hw) | (at_builtin; refine wpList_append_own _ rfl _ _ 30 rfl (w2.heap.size + 1) 79 i0 (.float .f64 0) 1 8 Tryz.underlying30 hi hz0 hz1 hz2 rfl (by decide) _ _ _ rfl (HO2.out.alloc _) ⟨wc.heap.size, 0, none⟩ 2 2 [.float .f64 (c.getD 0 0), .float .f64 (c.getD 1 0)] rfl rfl ?c1d0 ?c2d0 ?c3d0 ?c4d0 ?c5d0 ?_))
        first
          | (case c1d0 => exact World.news_of_block (heap_alloc_new wc _))
          | skip
        case c2d0 => first | (intro u hu; simp at hu; rcases hu with rfl | rfl <;> rfl) | (refine ⟨?_, ?_⟩ <;> rfl) | (simp [Value.oneCell'])
        case c3d0 => unfold maxLen; omega
        case c4d0 => omega
        case c5d0 => first | omega | (simp; omega)
        intro v'0 x0 hown hgrow _
        have hC := app_keep HC2.out hgrow (own_ne HO2.out HC2.out (by decide))
        have hA := app_keep HA2.out hgrow (own_ne HO2.out HA2.out (by decide))
        have hB := app_keep HB2.out hgrow (own_ne HO2.out HB2.out (by decide))
        have hQ := app_keep HQ.out hgrow (own_ne HO2.out HQ.out (by decide))
        have hX := (HBX.out.alloc HBX.out.size _).grown hgrow (by have := HBX.out.size; simp; omega) (fun j e => by have := (HO2.out.lt j e).1; omega)
        obtain ⟨av0, cv0, rfl⟩ := ownsRow_slice hown
        have hC' := Lib.heap_setCell_same (i := 2) hC (.slice av0 (k * 3 + 2) cv0)
        have hA' := (Below.heap_setCell x0 ⟨w2.heap.size, 2, none⟩ (.slice av0 (k * 3 + 2) cv0) w.heap.size (by show w.heap.size ≠ w2.heap.size; omega)).trans hA
        have hB' := (Below.heap_setCell x0 ⟨w2.heap.size, 2, none⟩ (.slice av0 (k * 3 + 2) cv0) (w.heap.size + 1) (by show w.heap.size + 1 ≠ w2.heap.size; omega)).trans hB
        have hQ' := (Below.heap_setCell x0 ⟨w2.heap.size, 2, none⟩ (.slice av0 (k * 3 + 2) cv0) q (by show q ≠ w2.heap.size; omega)).trans hQ
        have hO' := ownsRow_setCell_below hown (a := ⟨w2.heap.size, 2, none⟩) (Nat.lt_succ_self _) (.slice av0 (k * 3 + 2) cv0)
        have hX' := hX.setCell (p := ⟨w2.heap.size, 2, none⟩) (by show w.heap.size ≤ w2.heap.size; omega) (.slice av0 (k * 3 + 2) cv0)
        have hsz0 : q < x0.heap.size := Lib.lt_of_heap hQ
        clear m0 m1 m2 m3 q0 q1 q2 q3 q4 z
        obtain ⟨m0, m1, m2, m3⟩ := cell_four hC
        obtain ⟨q0, q1, q2, q3, q4⟩ := cell_five hQ
        have z := Lib.frozen_of_heap hC
        have HC3 := Lib.hid hC'
        have HA3 := Lib.hid hA'
        have HB3 := Lib.hid hB'
        have HQ3 := Lib.hid hQ'
        have HO3 := Lib.hid hO'
        have HX3 := Lib.hid hX'
        clear hC hA hB hQ hX hC' hA' hB' hQ' hO' hX' hown hgrow
        go_upto_region 10 with (first | (go_at_call 62; refine (his3 _).mono ?_; rintro e w' ⟨rfl, hw⟩; have hw := hw.symm; subst hw) | (go_at_call 63; refine (hism _).mono ?_; rintro e w' ⟨rfl, hw⟩; have hw := hw.symm; subst hw))
        generalize hWs : x0.setCell ⟨w2.heap.size, 2, none⟩ (.slice av0 (k * 3 + 2) cv0) = y0 at *
        have hC := HC3.out
        have hQ := HQ3.out
        have hXs := HX3.out.size
        have hlq0 := Lib.lt_of_heap hC
        clear m0 m1 m2 m3 q0 q1 q2 q3 q4 z hWs
        obtain ⟨m0, m1, m2, m3⟩ := cell_four hC
        obtain ⟨q0, q1, q2, q3, q4⟩ := cell_five hQ
        have z := Lib.frozen_of_heap hC
        clear hC hQ
        go_wp2_with (first | (go_at_call 62; refine (his3 _).mono ?_; rintro e w' ⟨rfl, hw⟩; have hw := hw.symm; subst hw) | (go_at_call 63; refine (hism _).mono ?_; rintro e w' ⟨rfl, hw⟩; have hw := hw.symm; subst hw) | (at_builtin; refine wpList_append_own _ rfl _ _ 30 rfl (w2.heap.size + 1) 79 i0 (.float .f64 0) 1 8 Tryz.underlying30 hi hz0 hz1 hz2 rfl (by decide) _ _ _ rfl (HO3.out.alloc _) ⟨y0.heap.size, 0, none⟩ 1 1 [.float .f64 (c.getD 2 0)] rfl rfl ?c1d1 ?c2d1 ?c3d1 ?c4d1 ?c5d1 ?_))
        first
          | (case c1d1 => exact World.news_of_block (heap_alloc_new y0 _))
          | skip
        case c2d1 => first | (intro u hu; simp at hu; rcases hu with rfl | rfl <;> rfl) | (refine ⟨?_, ?_⟩ <;> rfl) | (simp [Value.oneCell'])
        case c3d1 => unfold maxLen; omega
        case c4d1 => omega
        case c5d1 => first | omega | (simp; omega)
        intro v'1 x1 hown hgrow _
        have hC := app_keep HC3.out hgrow (own_ne HO3.out HC3.out (by decide))
        have hA := app_keep HA3.out hgrow (own_ne HO3.out HA3.out (by decide))
        have hB := app_keep HB3.out hgrow (own_ne HO3.out HB3.out (by decide))
        have hQ := app_keep HQ3.out hgrow (own_ne HO3.out HQ3.out (by decide))
        have hX := (HX3.out.alloc HX3.out.size _).grown hgrow (by have := HX3.out.size; simp; omega) (fun j e => by have := (HO3.out.lt j e).1; omega)
        obtain ⟨av1, cv1, rfl⟩ := ownsRow_slice hown
        have hC' := Lib.heap_setCell_same (i := 2) hC (.slice av1 (k * 3 + 2 + 1) cv1)
        have hA' := (Below.heap_setCell x1 ⟨w2.heap.size, 2, none⟩ (.slice av1 (k * 3 + 2 + 1) cv1) w.heap.size (by show w.heap.size ≠ w2.heap.size; omega)).trans hA
        have hB' := (Below.heap_setCell x1 ⟨w2.heap.size, 2, none⟩ (.slice av1 (k * 3 + 2 + 1) cv1) (w.heap.size + 1) (by show w.heap.size + 1 ≠ w2.heap.size; omega)).trans hB
        have hQ' := (Below.heap_setCell x1 ⟨w2.heap.size, 2, none⟩ (.slice av1 (k * 3 + 2 + 1) cv1) q (by show q ≠ w2.heap.size; omega)).trans hQ
        have hO' := ownsRow_setCell_below hown (a := ⟨w2.heap.size, 2, none⟩) (Nat.lt_succ_self _) (.slice av1 (k * 3 + 2 + 1) cv1)
        have hX' := hX.setCell (p := ⟨w2.heap.size, 2, none⟩) (by show w.heap.size ≤ w2.heap.size; omega) (.slice av1 (k * 3 + 2 + 1) cv1)
        have hsz1 : q < x1.heap.size := Lib.lt_of_heap hQ
        clear m0 m1 m2 m3 q0 q1 q2 q3 q4 z
        obtain ⟨m0, m1, m2, m3⟩ := cell_four hC
        obtain ⟨q0, q1, q2, q3, q4⟩ := cell_five hQ
        have z := Lib.frozen_of_heap hC
        have HC4 := Lib.hid hC'
        have HA4 := Lib.hid hA'
        have HB4 := Lib.hid hB'
        have HQ4 := Lib.hid hQ'
        have HO4 := Lib.hid hO'
        have HX4 := Lib.hid hX'
        clear hC hA hB hQ hX hC' hA' hB' hQ' hO' hX' hown hgrow
        go_wp2_with (first | (go_at_call 62; refine (his3 _).mono ?_; rintro e w' ⟨rfl, hw⟩; have hw := hw.symm; subst hw) | (go_at_call 63; refine (hism _).mono ?_; rintro e w' ⟨rfl, hw⟩; have hw := hw.symm; subst hw))
        go_roundg (gk - 1)
        case measure => have := HK.out; omega
        case rel =>
          refine ⟨k + 1, _, by go_num, by have := HK.out; omega, HA4.out, HB4.out, HC4.out, ?_, HX4.out⟩
          have ho := HO4.out
          rw [show (k + 1) * 3 = k * 3 + 2 + 1 from by omega, HT.out, HCE.out]
          simp only [fl, List.map_append, List.map_cons, List.map_nil, List.append_assoc, List.cons_append, List.nil_append] at ho ⊢
          exact ho
    · have hlt' : ¬ (k : Int) < P.length := by omega
      have hkP : k = P.length := by have := HK.out; omega
      go_wp2_with fail
      refine (hsl _).mono ?_
      rintro e w3 ⟨rfl, hb3⟩
      have hA3 := rb_far HA.out hb3
      have hB3 := rb_far HB.out hb3
      have hC3 := rb_far HC.out hb3
      have hO3 := ownsRow_far HO.out hb3
      have hX3 := HBr.out.trans (below_far hb3 HBr.out.size)
      rw [hkP, ← HNn.out, List.take_length] at hO3
      obtain ⟨ak, ck, rfl⟩ := ownsRow_slice hO3
      obtain ⟨b0, b1, b2, b3⟩ := cell_four hB3
      obtain ⟨c0, c1, c2, c3⟩ := cell_four hC3
      have z := Lib.frozen_of_heap hB3
      have HB4 := Lib.hid hB3
      have HO4 := Lib.hid hO3
      have HX4 := Lib.hid hX3
      clear hA3 hB3 hC3 hO3 hX3 hb3 hkP
      go_wp2
      refine bodyPost_ret (res_cell rfl _ _ (w.heap.size + 1) 33 #[_, _, _, _] (0, 0) _ rfl (f4_heap HB4.out) Tryz.underlying33 (by kernel_rfl)) rfl ?_
      exact ⟨⟨_, rfl, ownsRow_mono (f4_ownB HO4.out (by omega)) (by omega)⟩, HX4.out.trans ((Below.refl w.heap.size _).grown f4_grown HX4.out.size (fun k e => by injection e with e; omega))⟩

set_option linter.unusedSimpArgs false in
set_option maxHeartbeats 8000000 in
set_option maxRecDepth 100000 in
theorem seq_3 (X : Nat) (w : World) (ao : Option Addr) (n cp : Nat) (P : List (List Nat)) (hP : ∀ c ∈ P, c.length = 4) (hn : n = P.length * 4) (hown : w.ownsRow X 79 1 (.slice ao n cp) n (fl P.flatten)) (hlen : n ≤ 500000) :
    Calls Tryz.prog 45 #[.agg #[.int .u8 3, .slice ao n cp]] w fun e w' => (∃ v, e = .returned (.agg #[.int .i64 2, .int .i64 3, v, .slice none 0 0]) ∧ w'.ownsRow w.heap.size 79 1 v n (fl P.flatten)) ∧ Below w.heap.size w w' := by
  obtain ⟨i0, hi, hz0, hz1, hz2⟩ := info_parts inf79
  have hd2 : dimW 3 = 4 := rfl
  have hpl : P.length ≤ 500000 := by omega
  have hat : ∀ k c, P[k]? = some c → ∃ g, ao = some ⟨g, 0, none⟩ ∧ g < w.heap.size ∧ ∀ W, Below w.heap.size w W → ∀ j, j < dimW 3 → W.cell? ⟨g, k * dimW 3 + j, none⟩ = some (.float .f64 (c.getD j 0)) := by
    intro k c hk
    rw [hd2]
    have hkl := (List.getElem?_eq_some_iff.1 hk).1
    obtain ⟨g, cp', hf, -, hgs⟩ := hown.form (by omega)
    injection hf with hf _ _
    subst hf
    refine ⟨g, rfl, hgs, fun W hb j hj => ?_⟩
    have := (ownsRow_far hown hb).cellAt (k * 4 + j) (by omega)
    rw [this]
    unfold fl
    rw [List.getElem?_map, flat_at hP hk j hj]
    rfl
  have hsl := fun W => slen_any 3 (by decide) ao n cp P.length (by rw [hd2]; exact hn) hpl W
  have hsc := fun W => sct_any 3 ao n cp W
  have his3 := fun W => is3_any 3 (by decide) W
  have hism := fun W => ism_any 3 (by decide) W
  have hA := heap_alloc2_old w (.cells #[.int .u8 3, .slice ao n cp] 65) (.cells #[.int .i64 0, .int .i64 0, .slice none 0 0, .slice none 0 0] 33)
  have hB := heap_alloc2_new w (.cells #[.int .u8 3, .slice ao n cp] 65) (.cells #[.int .i64 0, .int .i64 0, .slice none 0 0, .slice none 0 0] 33)
  have hb0 : Below w.heap.size w ((w.alloc (.cells #[.int .u8 3, .slice ao n cp] 65)).alloc (.cells #[.int .i64 0, .int .i64 0, .slice none 0 0, .slice none 0 0] 33)) := ((Below.refl _ _).alloc (Nat.le_refl _) _).alloc (by simp) _
  generalize hww : (w.alloc (.cells #[.int .u8 3, .slice ao n cp] 65)).alloc (.cells #[.int .i64 0, .int .i64 0, .slice none 0 0, .slice none 0 0] 33) = W1 at *
  have HWW := Lib.hid hww
  have HAT := Lib.hid hat
  have HP := Lib.hid hP
  have HNn := Lib.hid hn
  have HA := Lib.hid hA
  have HB := Lib.hid hB
  have HB0 := Lib.hid hb0
  have hlt1 := Lib.lt_of_heap hB
  obtain ⟨a0, a1⟩ := cell_two hA
  clear hat hA hB hb0 hww hown hP hn
  go_enter Tryz.func45, Tryz.ntmps45
  go_wp2_with fail
  erw [HWW.out]
  refine (hsc _).mono ?_
  rintro e w2 ⟨rfl, hb2⟩
  have hA2 := (hb2.block _ (Lib.lt_of_heap HA.out)).trans HA.out
  have hB2 := (hb2.block _ (Lib.lt_of_heap HB.out)).trans HB.out
  have h3 := heap_alloc_new w2 (.cells #[.int .i64 2, .int .i64 3, .slice none 0 0, .slice none 0 0] 33)
  have hA3 := (Below.heap_alloc w2 (.cells #[.int .i64 2, .int .i64 3, .slice none 0 0, .slice none 0 0] 33) _ (Lib.lt_of_heap hA2)).trans hA2
  have hB3 := (Below.heap_alloc w2 (.cells #[.int .i64 2, .int .i64 3, .slice none 0 0, .slice none 0 0] 33) _ (Lib.lt_of_heap hB2)).trans hB2
  have hb3 := (HB0.out.trans (below_far hb2 HB0.out.size)).alloc (Nat.le_trans HB0.out.size hb2.size) (.cells #[.int .i64 2, .int .i64 3, .slice none 0 0, .slice none 0 0] 33)
  have hlt2 := hb2.size
  have HA3 := Lib.hid hA3
  have HB3 := Lib.hid hB3
  have H3 := Lib.hid h3
  have HBB := Lib.hid hb3
  clear hb2 hA2 hB2 hA3 hB3 h3 hb3 a0 a1
  go_wp2
  go_loopg [4] P.length (fun Gm s4 wr => ∃ (k : Nat) (kv : Value), s4 = .int .i64 k ∧ k + Gm = P.length ∧ wr.heap[w.heap.size]? = some (.cells #[.int .u8 3, .slice ao n cp] 65 (0, 0)) ∧ wr.heap[w.heap.size + 1]? = some (.cells #[.int .i64 0, .int .i64 0, .slice none 0 0, .slice none 0 0] 33 (0, 0)) ∧
    wr.heap[w2.heap.size]? = some (.cells #[.int .i64 2, .int .i64 3, kv, .slice none 0 0] 33 (0, 0)) ∧ wr.ownsRow (w2.heap.size + 1) 79 1 kv (k * 4) (fl (P.take k).flatten) ∧ Below w.heap.size w wr)
  case atStart => exact ⟨0, .slice none 0 0, rfl, by omega, HA3.out, HB3.out, H3.out, by rw [Nat.zero_mul]; exact World.ownsRow_nil _ _ _ _, HBB.out⟩
  case round =>
    obtain ⟨k, kv, rfl, hk, hA, hB, hC, hO, hb⟩ := hrel
    have HK := Lib.hid hk
    have HA := Lib.hid hA
    have HB := Lib.hid hB
    have HC := Lib.hid hC
    have HO := Lib.hid hO
    have HBr := Lib.hid hb
    obtain ⟨a0, a1⟩ := cell_two hA
    clear hk hA hB hC hO hb
    by_cases hlt : k < P.length
    · have hlt' : (k : Int) < P.length := by omega
      obtain ⟨c, hc⟩ : ∃ c, P[k]? = some c := ⟨_, List.getElem?_eq_getElem hlt⟩
      obtain ⟨g, rfl, hg, hcat⟩ := HAT.out k c hc
      have hkn : k * 4 + 4 ≤ n := by have := HNn.out; omega
      have hget : ∀ W, Below wr.heap.size wr W → Calls Tryz.prog 61 #[.agg #[.int .u8 3, .slice (some ⟨g, 0, none⟩) n cp], .int .i64 k] W fun e w' => e = .returned (.agg #[.float .f64 (c.getD 0 0), .float .f64 (c.getD 1 0), .float .f64 (c.getD 2 0), .float .f64 (c.getD 3 0), .int .u8 3]) ∧ Below W.heap.size W w' := by
        intro W hW
        have hbW := HBr.out.trans (below_far hW HBr.out.size)
        exact get_any 3 (by decide) g n cp k c W hkn hlen (Nat.lt_of_lt_of_le hg hbW.size) (fun W' hW' j hj => hcat W' (hbW.trans (below_far hW' hbW.size)) j hj)
      have HG := Lib.hid hget
      have hcl := HP.out c (List.mem_of_getElem? hc)
      have HT := Lib.hid (pn_take HP.out hc)
      have HCL := Lib.hid hcl
      have hce : c = [c.getD 0 0, c.getD 1 0, c.getD 2 0, c.getD 3 0] := by
        match c, hcl with
        | [x0, x1, x2, x3], _ => rfl
      have HCE := Lib.hid hce
      clear hc hcat hget hcl hce
      go_wp2_with fail
      refine (hsl _).mono ?_
      rintro e w3 ⟨rfl, hb3⟩
      have hA3 := rb_far HA.out hb3
      obtain ⟨e0, e1⟩ := cell_two hA3
      have hgg := HG.out w3 hb3
      have HB3 := Lib.hid hb3
      clear hb3 hA3
      go_upto_region 5 with fail
      go_cut [5] (fun s5 wx => ∃ q, s5 = .pointer (some ⟨q, 0, none⟩) ∧ wx.heap[q]? = some (.cells #[.float .f64 (c.getD 0 0), .float .f64 (c.getD 1 0), .float .f64 (c.getD 2 0), .float .f64 (c.getD 3 0), .int .u8 3] 126 (0, 0)) ∧ Below wr.heap.size wr wx ∧ wr.heap.size ≤ q)
      case first =>
        go_wp2_with fail
        refine hgg.mono ?_
        rintro e w4 ⟨rfl, hb4⟩
        have hst := fun (W : World) (j : Nat) (x : Nat) => run_store Tryz.prog W ⟨w4.heap.size, j, none⟩ (.float .f64 x) .plain rfl
        have HB4 := Lib.hid (HB3.out.trans (below_far hb4 HB3.out.size))
        clear hgg hb4
        go_wp2
        go_meet
        exact ⟨w4.heap.size, rfl, heap_alloc_new w4 _, HB4.out.alloc HB4.out.size _, HB4.out.size⟩
      case rest =>
        obtain ⟨q, rfl, hq, hbx, hqr⟩ := hcut
        have hc2 := rb_far HC.out hbx
        have hA2 := rb_far HA.out hbx
        have hB2 := rb_far HB.out hbx
        have hO2 := ownsRow_far HO.out hbx
        obtain ⟨m0, m1, m2, m3⟩ := cell_four hc2
        obtain ⟨q0, q1, q2, q3, q4⟩ := cell_five hq
        have z := Lib.frozen_of_heap hc2
        have HC2 := Lib.hid hc2
        have HA2 := Lib.hid hA2
        have HB2 := Lib.hid hB2
        have HO2 := Lib.hid hO2
        have HQ := Lib.hid hq
        have HBX := Lib.hid (HBr.out.trans (below_far hbx HBr.out.size))
        have hsw := HBX.out.size
        have hll : (P.take k).flatten.length = k * 4 := take_flat_len HP.out (by omega)
        obtain ⟨ak, ck, rfl⟩ := ownsRow_slice hO2
        have hlq := Lib.lt_of_heap hc2
        have hlw := Lib.lt_of_heap HC.out
        clear hc2 hA2 hB2 hO2 hq hbx e0 e1 a0 a1 hgg
        go_wp2_with (first | (go_at_call 62; refine (his3 _).mono ?_; rintro e w' ⟨rfl, hw⟩; have hw := hw.symm; subst hw) | (go_at_call 63; refine (hism _).mono ?_; rintro e w' ⟨rfl, hw⟩; have hw := hw.symm; subst hw) | (at_builtin; refine wpList_append_own _ rfl _ _ 30 rfl (w2.heap.size + 1) 79 i0 (.float .f64 0) 1 8 Tryz.underlying30 hi hz0 hz1 hz2 rfl (by decide) _ _ _ rfl (HO2.out.alloc _) ⟨wc.heap.size, 0, none⟩ 2 2 [.float .f64 (c.getD 0 0), .float .f64 (c.getD 1 0)] rfl rfl ?c1d0 ?c2d0 ?c3d0 ?c4d0 ?c5d0 ?_))
        first
          | (case c1d0 => exact World.news_of_block (heap_alloc_new wc _))
          | skip
        case c2d0 => first | (intro u hu; simp at hu; rcases hu with rfl | rfl <;> rfl) | (refine ⟨?_, ?_⟩ <;> rfl) | (simp [Value.oneCell'])
        case c3d0 => unfold maxLen; omega
        case c4d0 => omega
        case c5d0 => first | omega | (simp; omega)
        intro v'0 x0 hown hgrow _
        have hC := app_keep HC2.out hgrow (own_ne HO2.out HC2.out (by decide))
        have hA := app_keep HA2.out hgrow (own_ne HO2.out HA2.out (by decide))
        have hB := app_keep HB2.out hgrow (own_ne HO2.out HB2.out (by decide))
        have hQ := app_keep HQ.out hgrow (own_ne HO2.out HQ.out (by decide))
        have hX := (HBX.out.alloc HBX.out.size _).grown hgrow (by have := HBX.out.size; simp; omega) (fun j e => by have := (HO2.out.lt j e).1; omega)
        obtain ⟨av0, cv0, rfl⟩ := ownsRow_slice hown
        have hC' := Lib.heap_setCell_same (i := 2) hC (.slice av0 (k * 4 + 2) cv0)
        have hA' := (Below.heap_setCell x0 ⟨w2.heap.size, 2, none⟩ (.slice av0 (k * 4 + 2) cv0) w.heap.size (by show w.heap.size ≠ w2.heap.size; omega)).trans hA
        have hB' := (Below.heap_setCell x0 ⟨w2.heap.size, 2, none⟩ (.slice av0 (k * 4 + 2) cv0) (w.heap.size + 1) (by show w.heap.size + 1 ≠ w2.heap.size; omega)).trans hB
        have hQ' := (Below.heap_setCell x0 ⟨w2.heap.size, 2, none⟩ (.slice av0 (k * 4 + 2) cv0) q (by show q ≠ w2.heap.size; omega)).trans hQ
        have hO' := ownsRow_setCell_below hown (a := ⟨w2.heap.size, 2, none⟩) (Nat.lt_succ_self _) (.slice av0 (k * 4 + 2) cv0)
        have hX' := hX.setCell (p := ⟨w2.heap.size, 2, none⟩) (by show w.heap.size ≤ w2.heap.size; omega) (.slice av0 (k * 4 + 2) cv0)
        have hsz0 : q < x0.heap.size := Lib.lt_of_heap hQ
        clear m0 m1 m2 m3 q0 q1 q2 q3 q4 z
        obtain ⟨m0, m1, m2, m3⟩ := cell_four hC
        obtain ⟨q0, q1, q2, q3, q4⟩ := cell_five hQ
        have z := Lib.frozen_of_heap hC
        have HC3 := Lib.hid hC'
        have HA3 := Lib.hid hA'
        have HB3 := Lib.hid hB'
        have HQ3 := Lib.hid hQ'
        have HO3 := Lib.hid hO'
        have HX3 := Lib.hid hX'
        clear hC hA hB hQ hX hC' hA' hB' hQ' hO' hX' hown hgrow
        go_upto_region 8 with (first | (go_at_call 62; refine (his3 _).mono ?_; rintro e w' ⟨rfl, hw⟩; have hw := hw.symm; subst hw) | (go_at_call 63; refine (hism _).mono ?_; rintro e w' ⟨rfl, hw⟩; have hw := hw.symm; subst hw))
        generalize hWs : x0.setCell ⟨w2.heap.size, 2, none⟩ (.slice av0 (k * 4 + 2) cv0) = y0 at *
        have hC := HC3.out
        have hQ := HQ3.out
        have hXs := HX3.out.size
        have hlq0 := Lib.lt_of_heap hC
        clear m0 m1 m2 m3 q0 q1 q2 q3 q4 z hWs
        obtain ⟨m0, m1, m2, m3⟩ := cell_four hC
        obtain ⟨q0, q1, q2, q3, q4⟩ := cell_five hQ
        have z := Lib.frozen_of_heap hC
        clear hC hQ
        go_wp2_with (first | (go_at_call 62; refine (his3 _).mono ?_; rintro e w' ⟨rfl, hw⟩; have hw := hw.symm; subst hw) | (go_at_call 63; refine (hism _).mono ?_; rintro e w' ⟨rfl, hw⟩; have hw := hw.symm; subst hw) | (at_builtin; refine wpList_append_own _ rfl _ _ 30 rfl (w2.heap.size + 1) 79 i0 (.float .f64 0) 1 8 Tryz.underlying30 hi hz0 hz1 hz2 rfl (by decide) _ _ _ rfl (HO3.out.alloc _) ⟨y0.heap.size, 0, none⟩ 1 1 [.float .f64 (c.getD 2 0)] rfl rfl ?c1d1 ?c2d1 ?c3d1 ?c4d1 ?c5d1 ?_))
        first
          | (case c1d1 => exact World.news_of_block (heap_alloc_new y0 _))
          | skip
        case c2d1 => first | (intro u hu; simp at hu; rcases hu with rfl | rfl <;> rfl) | (refine ⟨?_, ?_⟩ <;> rfl) | (simp [Value.oneCell'])
        case c3d1 => unfold maxLen; omega
        case c4d1 => omega
        case c5d1 => first | omega | (simp; omega)
        intro v'1 x1 hown hgrow _
        have hC := app_keep HC3.out hgrow (own_ne HO3.out HC3.out (by decide))
        have hA := app_keep HA3.out hgrow (own_ne HO3.out HA3.out (by decide))
        have hB := app_keep HB3.out hgrow (own_ne HO3.out HB3.out (by decide))
        have hQ := app_keep HQ3.out hgrow (own_ne HO3.out HQ3.out (by decide))
        have hX := (HX3.out.alloc HX3.out.size _).grown hgrow (by have := HX3.out.size; simp; omega) (fun j e => by have := (HO3.out.lt j e).1; omega)
        obtain ⟨av1, cv1, rfl⟩ := ownsRow_slice hown
        have hC' := Lib.heap_setCell_same (i := 2) hC (.slice av1 (k * 4 + 2 + 1) cv1)
        have hA' := (Below.heap_setCell x1 ⟨w2.heap.size, 2, none⟩ (.slice av1 (k * 4 + 2 + 1) cv1) w.heap.size (by show w.heap.size ≠ w2.heap.size; omega)).trans hA
        have hB' := (Below.heap_setCell x1 ⟨w2.heap.size, 2, none⟩ (.slice av1 (k * 4 + 2 + 1) cv1) (w.heap.size + 1) (by show w.heap.size + 1 ≠ w2.heap.size; omega)).trans hB
        have hQ' := (Below.heap_setCell x1 ⟨w2.heap.size, 2, none⟩ (.slice av1 (k * 4 + 2 + 1) cv1) q (by show q ≠ w2.heap.size; omega)).trans hQ
        have hO' := ownsRow_setCell_below hown (a := ⟨w2.heap.size, 2, none⟩) (Nat.lt_succ_self _) (.slice av1 (k * 4 + 2 + 1) cv1)
        have hX' := hX.setCell (p := ⟨w2.heap.size, 2, none⟩) (by show w.heap.size ≤ w2.heap.size; omega) (.slice av1 (k * 4 + 2 + 1) cv1)
        have hsz1 : q < x1.heap.size := Lib.lt_of_heap hQ
        clear m0 m1 m2 m3 q0 q1 q2 q3 q4 z
        obtain ⟨m0, m1, m2, m3⟩ := cell_four hC
        obtain ⟨q0, q1, q2, q3, q4⟩ := cell_five hQ
        have z := Lib.frozen_of_heap hC
        have HC4 := Lib.hid hC'
        have HA4 := Lib.hid hA'
        have HB4 := Lib.hid hB'
        have HQ4 := Lib.hid hQ'
        have HO4 := Lib.hid hO'
        have HX4 := Lib.hid hX'
        clear hC hA hB hQ hX hC' hA' hB' hQ' hO' hX' hown hgrow
        go_upto_region 10 with (first | (go_at_call 62; refine (his3 _).mono ?_; rintro e w' ⟨rfl, hw⟩; have hw := hw.symm; subst hw) | (go_at_call 63; refine (hism _).mono ?_; rintro e w' ⟨rfl, hw⟩; have hw := hw.symm; subst hw))
        generalize hWs : x1.setCell ⟨w2.heap.size, 2, none⟩ (.slice av1 (k * 4 + 2 + 1) cv1) = y1 at *
        have hC := HC4.out
        have hQ := HQ4.out
        have hXs := HX4.out.size
        have hlq1 := Lib.lt_of_heap hC
        clear m0 m1 m2 m3 q0 q1 q2 q3 q4 z hWs
        obtain ⟨m0, m1, m2, m3⟩ := cell_four hC
        obtain ⟨q0, q1, q2, q3, q4⟩ := cell_five hQ
        have z := Lib.frozen_of_heap hC
        clear hC hQ
        go_wp2_with (first | (go_at_call 62; refine (his3 _).mono ?_; rintro e w' ⟨rfl, hw⟩; have hw := hw.symm; subst hw) | (go_at_call 63; refine (hism _).mono ?_; rintro e w' ⟨rfl, hw⟩; have hw := hw.symm; subst hw) | (at_builtin; refine wpList_append_own _ rfl _ _ 30 rfl (w2.heap.size + 1) 79 i0 (.float .f64 0) 1 8 Tryz.underlying30 hi hz0 hz1 hz2 rfl (by decide) _ _ _ rfl (HO4.out.alloc _) ⟨y1.heap.size, 0, none⟩ 1 1 [.float .f64 (c.getD 3 0)] rfl rfl ?c1d2 ?c2d2 ?c3d2 ?c4d2 ?c5d2 ?_))
        first
          | (case c1d2 => exact World.news_of_block (heap_alloc_new y1 _))
          | skip
        case c2d2 => first | (intro u hu; simp at hu; rcases hu with rfl | rfl <;> rfl) | (refine ⟨?_, ?_⟩ <;> rfl) | (simp [Value.oneCell'])
        case c3d2 => unfold maxLen; omega
        case c4d2 => omega
        case c5d2 => first | omega | (simp; omega)
        intro v'2 x2 hown hgrow _
        have hC := app_keep HC4.out hgrow (own_ne HO4.out HC4.out (by decide))
        have hA := app_keep HA4.out hgrow (own_ne HO4.out HA4.out (by decide))
        have hB := app_keep HB4.out hgrow (own_ne HO4.out HB4.out (by decide))
        have hQ := app_keep HQ4.out hgrow (own_ne HO4.out HQ4.out (by decide))
        have hX := (HX4.out.alloc HX4.out.size _).grown hgrow (by have := HX4.out.size; simp; omega) (fun j e => by have := (HO4.out.lt j e).1; omega)
        obtain ⟨av2, cv2, rfl⟩ := ownsRow_slice hown
        have hC' := Lib.heap_setCell_same (i := 2) hC (.slice av2 (k * 4 + 2 + 1 + 1) cv2)
        have hA' := (Below.heap_setCell x2 ⟨w2.heap.size, 2, none⟩ (.slice av2 (k * 4 + 2 + 1 + 1) cv2) w.heap.size (by show w.heap.size ≠ w2.heap.size; omega)).trans hA
        have hB' := (Below.heap_setCell x2 ⟨w2.heap.size, 2, none⟩ (.slice av2 (k * 4 + 2 + 1 + 1) cv2) (w.heap.size + 1) (by show w.heap.size + 1 ≠ w2.heap.size; omega)).trans hB
        have hQ' := (Below.heap_setCell x2 ⟨w2.heap.size, 2, none⟩ (.slice av2 (k * 4 + 2 + 1 + 1) cv2) q (by show q ≠ w2.heap.size; omega)).trans hQ
        have hO' := ownsRow_setCell_below hown (a := ⟨w2.heap.size, 2, none⟩) (Nat.lt_succ_self _) (.slice av2 (k * 4 + 2 + 1 + 1) cv2)
        have hX' := hX.setCell (p := ⟨w2.heap.size, 2, none⟩) (by show w.heap.size ≤ w2.heap.size; omega) (.slice av2 (k * 4 + 2 + 1 + 1) cv2)
        have hsz2 : q < x2.heap.size := Lib.lt_of_heap hQ
        clear m0 m1 m2 m3 q0 q1 q2 q3 q4 z
        obtain ⟨m0, m1, m2, m3⟩ := cell_four hC
        obtain ⟨q0, q1, q2, q3, q4⟩ := cell_five hQ
        have z := Lib.frozen_of_heap hC
        have HC5 := Lib.hid hC'
        have HA5 := Lib.hid hA'
        have HB5 := Lib.hid hB'
        have HQ5 := Lib.hid hQ'
        have HO5 := Lib.hid hO'
        have HX5 := Lib.hid hX'
        clear hC hA hB hQ hX hC' hA' hB' hQ' hO' hX' hown hgrow
        go_wp2_with (first | (go_at_call 62; refine (his3 _).mono ?_; rintro e w' ⟨rfl, hw⟩; have hw := hw.symm; subst hw) | (go_at_call 63; refine (hism _).mono ?_; rintro e w' ⟨rfl, hw⟩; have hw := hw.symm; subst hw))
        go_roundg (gk - 1)
        case measure => have := HK.out; omega
        case rel =>
          refine ⟨k + 1, _, by go_num, by have := HK.out; omega, HA5.out, HB5.out, HC5.out, ?_, HX5.out⟩
          have ho := HO5.out
          rw [show (k + 1) * 4 = k * 4 + 2 + 1 + 1 from by omega, HT.out, HCE.out]
          simp only [fl, List.map_append, List.map_cons, List.map_nil, List.append_assoc, List.cons_append, List.nil_append] at ho ⊢
          exact ho
    · have hlt' : ¬ (k : Int) < P.length := by omega
      have hkP : k = P.length := by have := HK.out; omega
      go_wp2_with fail
      refine (hsl _).mono ?_
      rintro e w3 ⟨rfl, hb3⟩
      have hA3 := rb_far HA.out hb3
      have hB3 := rb_far HB.out hb3
      have hC3 := rb_far HC.out hb3
      have hO3 := ownsRow_far HO.out hb3
      have hX3 := HBr.out.trans (below_far hb3 HBr.out.size)
      rw [hkP, ← HNn.out, List.take_length] at hO3
      obtain ⟨ak, ck, rfl⟩ := ownsRow_slice hO3
      obtain ⟨b0, b1, b2, b3⟩ := cell_four hB3
      obtain ⟨c0, c1, c2, c3⟩ := cell_four hC3
      have z := Lib.frozen_of_heap hB3
      have HB4 := Lib.hid hB3
      have HO4 := Lib.hid hO3
      have HX4 := Lib.hid hX3
      clear hA3 hB3 hC3 hO3 hX3 hb3 hkP
      go_wp2
      refine bodyPost_ret (res_cell rfl _ _ (w.heap.size + 1) 33 #[_, _, _, _] (0, 0) _ rfl (f4_heap HB4.out) Tryz.underlying33 (by kernel_rfl)) rfl ?_
      exact ⟨⟨_, rfl, ownsRow_mono (f4_ownB HO4.out (by omega)) (by omega)⟩, HX4.out.trans ((Below.refl w.heap.size _).grown f4_grown HX4.out.size (fun k e => by injection e with e; omega))⟩

theorem seq_any (X : Nat) (w : World) (d : Nat) (hd : d < 4) (ao : Option Addr) (n cp : Nat) (xs : List Nat) (hm : xs.length % dimW d = 0) (hn : n = xs.length) (hown : w.ownsRow X 79 1 (.slice ao n cp) n (fl xs)) (hlen : n ≤ 500000) :
    Calls Tryz.prog 45 #[.agg #[.int .u8 d, .slice ao n cp]] w fun e w' => (∃ v, e = .returned (.agg #[.int .i64 2, .int .i64 d, v, .slice none 0 0]) ∧ w'.ownsRow w.heap.size 79 1 v n (fl xs)) ∧ Below w.heap.size w w' := by
  obtain ⟨P, rfl, hP2, hP3⟩ := chunks (dimW d) (dimW_pos d) (xs.length / dimW d) xs (by have := Nat.div_add_mod xs.length (dimW d); rw [hm, Nat.mul_comm] at this; omega)
  have hl : n = P.length * dimW d := by rw [hn, flat_len hP2]
  have : d = 0 ∨ d = 1 ∨ d = 2 ∨ d = 3 := by omega
  rcases this with rfl | rfl | rfl | rfl
  · exact seq_0 X w ao n cp P hP2 hl hown hlen
  · exact seq_1 X w ao n cp P hP2 hl hown hlen
  · exact seq_2 X w ao n cp P hP2 hl hown hlen
  · exact seq_3 X w ao n cp P hP2 hl hown hlen
end Go.Proofs.YthfjakbpeclfcaaGreatDoor
