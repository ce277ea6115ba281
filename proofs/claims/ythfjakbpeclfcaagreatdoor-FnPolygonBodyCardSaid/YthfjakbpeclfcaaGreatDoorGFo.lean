/-
  The reference's ForceCoordinatesType, to the same type.
  The reference's ForceCoordinatesType of a polygon, to the same type.
  The reference's SameNums and SameGeom of equal data.
-/
import Derived.Test.YthfjakbpeclfcaaGreatDoorNu
namespace Go.Proofs.YthfjakbpeclfcaaGreatDoor
open Go.RowKit Go
attribute [local go_sem ↓] Go.wp_at_zero Go.wp_at_succ

theorem heap_alloc3_0 (w : World) (a b c : Obj) : (((w.alloc a).alloc b).alloc c).heap[w.heap.size]? = some a := (Below.heap_alloc _ _ _ (by simp; omega)).trans (heap_alloc2_old w a b)
theorem heap_alloc3_1 (w : World) (a b c : Obj) : (((w.alloc a).alloc b).alloc c).heap[w.heap.size + 1]? = some b := (Below.heap_alloc _ _ _ (by simp)).trans (heap_alloc2_new w a b)
theorem heap_alloc3_2 (w : World) (a b c : Obj) : (((w.alloc a).alloc b).alloc c).heap[w.heap.size + 1 + 1]? = some c := by
  have := heap_alloc_new ((w.alloc a).alloc b) c
  simpa using this
set_option maxHeartbeats 4000000 in
set_option maxRecDepth 100000 in
theorem fo_line (X : Nat) (w : World) (d : Nat) (hd : d < 4) (ao : Option Addr) (cp : Nat) (xs : List Nat) (hm : xs.length % dimW d = 0) (hown : w.ownsRow X 79 1 (.slice ao xs.length cp) xs.length (fl xs)) (hlen : xs.length ≤ 500000) :
    Calls Tryz.prog 34 #[.agg #[.int .i64 2, .int .i64 d, .slice ao xs.length cp, .slice none 0 0], .int .i64 d] w fun e w' => (∃ v, e = .returned (.agg #[.int .i64 2, .int .i64 d, v, .slice none 0 0]) ∧ w'.ownsRow w.heap.size 79 1 v xs.length (fl xs)) ∧ Below w.heap.size w w' := by
  obtain ⟨P, hP1, hP2, hP3⟩ := chunks (dimW d) (dimW_pos d) (xs.length / dimW d) xs (by have := Nat.div_add_mod xs.length (dimW d); rw [hm, Nat.mul_comm] at this; omega)
  have hPl : P.length ≤ 500000 := by rw [hP3]; exact Nat.le_trans (Nat.div_le_self _ _) hlen
  obtain ⟨n, hn⟩ : ∃ n, n = xs.length := ⟨_, rfl⟩
  have hPlc : ∀ W, Below w.heap.size w W → Calls Tryz.prog 49 #[.slice ao n cp, .int .i64 d] W fun e w' => (∃ v', e = .returned v' ∧ w'.ownsRow W.heap.size 130 4 v' P.length (pvs d P)) ∧ Below W.heap.size W w' := by
    intro W hb
    have h1 := ownsRow_far hown hb
    exact plc_any X W d hd (.slice ao n cp) P hP2 (by rw [hP1, hn]; exact h1) (by rw [hP1]; exact hlen)
  have hNum := fun (W : World) (Y : Nat) (v : Value) (h : W.ownsRow Y 130 4 v P.length (pvs d P)) => nums_any Y W d hd v P xs hP1 hP2 h hPl
  rw [← hn] at hNum hown ⊢
  have HPL := Lib.hid hPlc
  have HNU := Lib.hid hNum
  have h0 := heap_alloc3_0 w (.cells #[.int .i64 2, .int .i64 d, .slice ao n cp, .slice none 0 0] 33) (.cells #[.int .i64 0, .int .i64 0, .slice none 0 0, .slice none 0 0] 33) (.cells #[.int .i64 2, .int .i64 d, .slice none 0 0, .slice none 0 0] 33)
  have h1 := heap_alloc3_1 w (.cells #[.int .i64 2, .int .i64 d, .slice ao n cp, .slice none 0 0] 33) (.cells #[.int .i64 0, .int .i64 0, .slice none 0 0, .slice none 0 0] 33) (.cells #[.int .i64 2, .int .i64 d, .slice none 0 0, .slice none 0 0] 33)
  have h2 := heap_alloc3_2 w (.cells #[.int .i64 2, .int .i64 d, .slice ao n cp, .slice none 0 0] 33) (.cells #[.int .i64 0, .int .i64 0, .slice none 0 0, .slice none 0 0] 33) (.cells #[.int .i64 2, .int .i64 d, .slice none 0 0, .slice none 0 0] 33)
  have hb0 : Below w.heap.size w (((w.alloc (.cells #[.int .i64 2, .int .i64 d, .slice ao n cp, .slice none 0 0] 33)).alloc (.cells #[.int .i64 0, .int .i64 0, .slice none 0 0, .slice none 0 0] 33)).alloc (.cells #[.int .i64 2, .int .i64 d, .slice none 0 0, .slice none 0 0] 33)) :=
    (((Below.refl _ _).alloc (Nat.le_refl _) _).alloc (by simp) _).alloc (by simp; omega) _
  generalize hW3 : ((w.alloc (.cells #[.int .i64 2, .int .i64 d, .slice ao n cp, .slice none 0 0] 33)).alloc (.cells #[.int .i64 0, .int .i64 0, .slice none 0 0, .slice none 0 0] 33)).alloc (.cells #[.int .i64 2, .int .i64 d, .slice none 0 0, .slice none 0 0] 33) = W3 at *
  have HW3 := Lib.hid hW3
  have H0 := Lib.hid h0
  have H1 := Lib.hid h1
  have H2 := Lib.hid h2
  have HB0 := Lib.hid hb0
  have hp := hPlc W3 hb0
  clear hPlc hNum hown hm hP1 hP2 hP3 hn h0 h1 h2 hb0 hW3
  go_enter Tryz.func34, Tryz.ntmps34
  go_wp2_with fail
  rw [HW3.out]
  refine hp.mono ?_
  rintro e w4 ⟨⟨v4, rfl, k1⟩, hb4⟩
  have hq := HNU.out w4 _ v4 k1
  have HB4 := Lib.hid hb4
  clear hp k1 hb4
  go_wp2_with fail
  refine hq.mono ?_
  rintro e w5 ⟨⟨v5, rfl, k5⟩, hb5⟩
  have hb35 := HB4.out.trans (below_far hb5 HB4.out.size)
  have g0 := (hb35.block _ (Lib.lt_of_heap H0.out)).trans H0.out
  have g1 := (hb35.block _ (Lib.lt_of_heap H1.out)).trans H1.out
  have g2 := (hb35.block _ (Lib.lt_of_heap H2.out)).trans H2.out
  obtain ⟨a0, a1, a2, a3⟩ := cell_four g0
  obtain ⟨b0, b1, b2, b3⟩ := cell_four g1
  obtain ⟨c0, c1, c2, c3⟩ := cell_four g2
  have z1 := Lib.frozen_of_heap g1
  have z2 := Lib.frozen_of_heap g2
  have G1 := Lib.hid g1
  have G2 := Lib.hid g2
  have hbw := HB0.out.trans (below_far hb35 HB0.out.size)
  have HBW := Lib.hid hbw
  obtain ⟨ao5, c5, rfl⟩ := ownsRow_slice k5
  have K5 := Lib.hid (ownsRow_mono k5 (Nat.le_trans HB0.out.size HB4.out.size))
  clear hq k5 hb5 hb35 g0 g1 g2 hbw
  go_wp2
  go_loopg [23] 1 (fun G s23 wr => s23 = .int .i64 0 ∧ wr = w5.setCell ⟨w.heap.size + 1 + 1, 2, none⟩ (.slice ao5 n c5))
  case atStart => exact ⟨rfl, rfl⟩
  obtain ⟨rfl, rfl⟩ := hrel
  have g2 := Lib.heap_setCell_same (i := 2) G2.out (.slice ao5 n c5)
  have g1 := (Below.heap_setCell w5 ⟨w.heap.size + 1 + 1, 2, none⟩ (.slice ao5 n c5) (w.heap.size + 1) (by show w.heap.size + 1 ≠ w.heap.size + 1 + 1; omega)).trans G1.out
  have k6 := ownsRow_set (i := 2) (u := .slice ao5 n c5) K5.out G2.out (by decide)
  have hb6 := HBW.out.setCell (p := ⟨w.heap.size + 1 + 1, 2, none⟩) (by show w.heap.size ≤ w.heap.size + 1 + 1; omega) (.slice ao5 n c5)
  generalize w5.setCell ⟨w.heap.size + 1 + 1, 2, none⟩ (.slice ao5 n c5) = w6 at *
  obtain ⟨b0, b1, b2, b3⟩ := cell_four g1
  obtain ⟨c0, c1, c2, c3⟩ := cell_four g2
  have z1 := Lib.frozen_of_heap g1
  have GG1 := Lib.hid g1
  have K6 := Lib.hid k6
  have HB6 := Lib.hid hb6
  clear g1 g2 k6 hb6
  go_wp2
  refine bodyPost_ret (res_cell rfl _ _ (w.heap.size + 1) 33 #[_, _, _, _] (0, 0) _ rfl (f4_heap GG1.out) Tryz.underlying33 (by kernel_rfl)) rfl ?_
  exact ⟨⟨_, rfl, f4_own GG1.out K6.out (by decide)⟩, HB6.out.trans ((Below.refl w.heap.size _).grown f4_grown HB6.out.size (fun k e => by injection e with e; omega))⟩
end Go.Proofs.YthfjakbpeclfcaaGreatDoor

namespace Go.Proofs.YthfjakbpeclfcaaGreatDoor
open Go.RowKit Go
attribute [local go_sem ↓] Go.wp_at_zero Go.wp_at_succ

theorem kc_at (d : Nat) : ∀ (L : List (Value × List Nat)) (i : Nat) (p : Value × List Nat), L[i]? = some p → (kc d L)[i * 4]? = some (.int .i64 2) ∧ (kc d L)[i * 4 + 1]? = some (.int .i64 d) ∧ (kc d L)[i * 4 + 2]? = some p.1 ∧ (kc d L)[i * 4 + 3]? = some (.slice none 0 0)
  | [], i, p, h => by cases h
  | a :: t, 0, p, h => by
    simp at h
    subst h
    exact ⟨rfl, rfl, rfl, rfl⟩
  | a :: t, i + 1, p, h => by
    have := kc_at d t i p h
    rw [show (i + 1) * 4 = i * 4 + 1 + 1 + 1 + 1 from by omega]
    exact this
theorem Kds.at {X d g cap n : Nat} {w : World} {L : List (Value × List Nat)} (h : Kds X d w (.slice (some ⟨g, 0, none⟩) n cap) L) (hn : n = L.length) (i : Nat) (p : Value × List Nat) (hp : L[i]? = some p) :
    w.cell? ⟨g, i * 4, none⟩ = some (.int .i64 2) ∧ w.cell? ⟨g, i * 4 + 1, none⟩ = some (.int .i64 d) ∧ w.cell? ⟨g, i * 4 + 2, none⟩ = some p.1 ∧ w.cell? ⟨g, i * 4 + 3, none⟩ = some (.slice none 0 0) := by
  subst hn
  have hi : i < L.length := (List.getElem?_eq_some_iff.1 hp).1
  have := kc_at d L i p hp
  exact ⟨(h.own.cellAt (i * 4) (by omega)).trans this.1, (h.own.cellAt (i * 4 + 1) (by omega)).trans this.2.1, (h.own.cellAt (i * 4 + 2) (by omega)).trans this.2.2.1, (h.own.cellAt (i * 4 + 3) (by omega)).trans this.2.2.2⟩
set_option maxHeartbeats 8000000 in
set_option maxRecDepth 100000 in
theorem fo_poly (X : Nat) (w : World) (d : Nat) (hd : d < 4) (ao : Option Addr) (n cp : Nat) (L : List (Value × List Nat)) (hn : n = L.length) (hk : Kds X d w (.slice ao n cp) L) (hL : ∀ p, p ∈ L → p.2.length % dimW d = 0 ∧ p.2.length ≤ 500000) (hl : L.length ≤ 500000) :
    Calls Tryz.prog 34 #[.agg #[.int .i64 3, .int .i64 d, .slice none 0 0, .slice ao n cp], .int .i64 d] w fun e w' => (∃ ao' c' v L', e = .returned (.agg #[.int .i64 3, .int .i64 d, .slice ao' 0 c', v]) ∧ Kds w.heap.size d w' v L' ∧ L'.map (·.2) = L.map (·.2)) ∧ Below w.heap.size w w' := by
  obtain ⟨i0, hi, hz0, hz1, hz2⟩ := info_parts inf33
  have hPlc : ∀ W, Calls Tryz.prog 49 #[.slice none 0 0, .int .i64 d] W fun e w' => (∃ v', e = .returned v' ∧ w'.ownsRow W.heap.size 130 4 v' 0 (pvs d [])) ∧ Below W.heap.size W w' := fun W =>
    plc_any W.heap.size W d hd (.slice none 0 0) [] (fun c hc => by cases hc) (World.ownsRow_nil _ _ _ _) (by decide)
  have hNum := fun (W : World) (Y : Nat) (v : Value) (h : W.ownsRow Y 130 4 v 0 (pvs d [])) => nums_any Y W d hd v [] [] rfl (fun c hc => by cases hc) h (by decide)
  have HNU := Lib.hid hNum
  have h1 := heap_alloc3_1 w (.cells #[.int .i64 3, .int .i64 d, .slice none 0 0, .slice ao n cp] 33) (.cells #[.int .i64 0, .int .i64 0, .slice none 0 0, .slice none 0 0] 33) (.cells #[.int .i64 3, .int .i64 d, .slice none 0 0, .slice none 0 0] 33)
  have h2 := heap_alloc3_2 w (.cells #[.int .i64 3, .int .i64 d, .slice none 0 0, .slice ao n cp] 33) (.cells #[.int .i64 0, .int .i64 0, .slice none 0 0, .slice none 0 0] 33) (.cells #[.int .i64 3, .int .i64 d, .slice none 0 0, .slice none 0 0] 33)
  have h0 := heap_alloc3_0 w (.cells #[.int .i64 3, .int .i64 d, .slice none 0 0, .slice ao n cp] 33) (.cells #[.int .i64 0, .int .i64 0, .slice none 0 0, .slice none 0 0] 33) (.cells #[.int .i64 3, .int .i64 d, .slice none 0 0, .slice none 0 0] 33)
  have hb0 : Below w.heap.size w (((w.alloc (.cells #[.int .i64 3, .int .i64 d, .slice none 0 0, .slice ao n cp] 33)).alloc (.cells #[.int .i64 0, .int .i64 0, .slice none 0 0, .slice none 0 0] 33)).alloc (.cells #[.int .i64 3, .int .i64 d, .slice none 0 0, .slice none 0 0] 33)) :=
    (((Below.refl _ _).alloc (Nat.le_refl _) _).alloc (by simp) _).alloc (by simp; omega) _
  generalize hW3 : ((w.alloc (.cells #[.int .i64 3, .int .i64 d, .slice none 0 0, .slice ao n cp] 33)).alloc (.cells #[.int .i64 0, .int .i64 0, .slice none 0 0, .slice none 0 0] 33)).alloc (.cells #[.int .i64 3, .int .i64 d, .slice none 0 0, .slice none 0 0] 33) = W3 at *
  have HW3 := Lib.hid hW3
  have H0 := Lib.hid h0
  have H1 := Lib.hid h1
  have H2 := Lib.hid h2
  have HB0 := Lib.hid hb0
  have HK := Lib.hid hk
  have HL := Lib.hid hL
  have HN := Lib.hid hn
  have hp := hPlc W3
  have hnl : n ≤ 500000 := by omega
  clear hPlc hNum hk hL hn h0 h1 h2 hb0 hW3
  go_enter Tryz.func34, Tryz.ntmps34
  go_wp2_with fail
  rw [HW3.out]
  refine hp.mono ?_
  rintro e w4 ⟨⟨v4, rfl, k1⟩, hb4⟩
  have hq := HNU.out w4 _ v4 k1
  have HB4 := Lib.hid hb4
  clear hp k1 hb4
  go_wp2_with fail
  refine hq.mono ?_
  rintro e w5 ⟨⟨v5, rfl, k5⟩, hb5⟩
  have hb35 := HB4.out.trans (below_far hb5 HB4.out.size)
  have g0 := (hb35.block _ (Lib.lt_of_heap H0.out)).trans H0.out
  have g1 := (hb35.block _ (Lib.lt_of_heap H1.out)).trans H1.out
  have g2 := (hb35.block _ (Lib.lt_of_heap H2.out)).trans H2.out
  obtain ⟨a0, a1, a2, a3⟩ := cell_four g0
  obtain ⟨c0, c1, c2, c3⟩ := cell_four g2
  have z2 := Lib.frozen_of_heap g2
  have G0 := Lib.hid g0
  have G1 := Lib.hid g1
  have G2 := Lib.hid g2
  have hbw := HB0.out.trans (below_far hb35 HB0.out.size)
  have HBW := Lib.hid hbw
  obtain ⟨ao5, c5, rfl⟩ := ownsRow_slice k5
  have hg0b := (Below.heap_setCell w5 ⟨w.heap.size + 1 + 1, 2, none⟩ (.slice ao5 0 c5) w.heap.size (by show w.heap.size ≠ w.heap.size + 1 + 1; omega)).trans g0
  obtain ⟨x0, x1, x2, x3⟩ := cell_four hg0b
  clear hq k5 hb5 hb35 g0 g1 g2 hbw hg0b
  go_wp2
  go_loopg [23] n (fun Gm s23 wr => ∃ (i : Nat) (L' : List (Value × List Nat)) (kv : Value), s23 = .int .i64 i ∧ i + Gm = n ∧ L'.length = i ∧ wr.heap[w.heap.size + 1]? = some (.cells #[.int .i64 0, .int .i64 0, .slice none 0 0, .slice none 0 0] 33 (0, 0)) ∧ wr.heap[w.heap.size + 1 + 1]? = some (.cells #[.int .i64 3, .int .i64 d, .slice ao5 0 c5, kv] 33 (0, 0)) ∧
    Kds (w.heap.size + 3) d wr kv L' ∧ L'.map (·.2) = (L.map (·.2)).take i ∧ Below w.heap.size w wr ∧ w.heap.size + 3 ≤ wr.heap.size)
  case atStart =>
    refine ⟨0, [], .slice none 0 0, rfl, by omega, rfl, (Below.heap_setCell w5 ⟨w.heap.size + 1 + 1, 2, none⟩ (.slice ao5 0 c5) (w.heap.size + 1) (by show w.heap.size + 1 ≠ w.heap.size + 1 + 1; omega)).trans G1.out, Lib.heap_setCell_same (i := 2) G2.out (.slice ao5 0 c5), Kds.nil _ _ _, rfl, HBW.out.setCell (p := ⟨w.heap.size + 1 + 1, 2, none⟩) (by show w.heap.size ≤ w.heap.size + 1 + 1; omega) _, ?_⟩
    have := Lib.lt_of_heap (Lib.heap_setCell_same (i := 2) G2.out (.slice ao5 0 c5))
    omega
  case round =>
    obtain ⟨i, L', kv, rfl, hi', hLi, hA, hB, hkd, hmp, hb, hsz⟩ := hrel
    have HI := Lib.hid hi'
    have HLI := Lib.hid hLi
    have HA := Lib.hid hA
    have HBk := Lib.hid hB
    have HKD := Lib.hid hkd
    have HMP := Lib.hid hmp
    have HB := Lib.hid hb
    have hLb : L'.length ≤ 500000 := by omega
    clear hi' hA hB hkd hmp hb hLi
    by_cases hlt : i < n
    · have hlt' : (i : Int) < n := by omega
      obtain ⟨p, hp⟩ : ∃ p, L[i]? = some p := ⟨_, List.getElem?_eq_getElem (by have := HN.out; omega)⟩
      have hkw := HK.out.far (w' := wr) HB.out
      obtain ⟨g, cap, hform, hg1, hg2⟩ := hkw.own.form (by have := HN.out; omega)
      have hao : ao = some ⟨g, 0, none⟩ := by injection hform
      subst hao
      obtain ⟨d0, d1, d2, d3⟩ := hkw.at HN.out i p hp
      have hpm := List.mem_of_getElem? hp
      have hpe := hkw.each p hpm
      obtain ⟨pa, pc, hps⟩ := ownsRow_slice hpe
      rw [hps] at d2 hpe
      obtain ⟨hm1, hm2⟩ := HL.out p hpm
      have hmq : (L'.map (·.2)) ++ [p.2] = (L.map (·.2)).take (i + 1) := by
        rw [HMP.out, List.take_add_one, List.getElem?_map, hp]
        rfl
      generalize hxs : p.2 = xs at *
      generalize hm : xs.length = m at *
      have HM := Lib.hid hm
      have hcall : ∀ W, Below (wr.alloc (.cells #[.int .i64 2, .int .i64 d, .slice pa m pc, .slice none 0 0] 33)).heap.size (wr.alloc (.cells #[.int .i64 2, .int .i64 d, .slice pa m pc, .slice none 0 0] 33)) W →
          Calls Tryz.prog 34 #[.agg #[.int .i64 2, .int .i64 d, .slice pa m pc, .slice none 0 0], .int .i64 d] W fun e w' => ∃ (ao' : Option Addr) (cv : Nat), e = .returned (.agg #[.int .i64 2, .int .i64 d, .slice ao' m cv, .slice none 0 0]) ∧ w'.ownsRow (w.heap.size + 3) 79 1 (.slice ao' m cv) m (fl xs) ∧
            w'.heap[wr.heap.size]? = some (.cells #[.int .i64 2, .int .i64 d, .slice pa m pc, .slice none 0 0] 33 (0, 0)) ∧ w'.heap[w.heap.size + 1]? = some (.cells #[.int .i64 0, .int .i64 0, .slice none 0 0, .slice none 0 0] 33 (0, 0)) ∧ w'.heap[w.heap.size + 1 + 1]? = some (.cells #[.int .i64 3, .int .i64 d, .slice ao5 0 c5, kv] 33 (0, 0)) ∧
            Kds (w.heap.size + 3) d w' kv L' ∧ Below w.heap.size w w' ∧ w.heap.size + 3 ≤ w'.heap.size := by
        intro W hb
        have hbr : Below wr.heap.size wr W := ((Below.refl _ _).alloc (Nat.le_refl _) _).trans (below_far hb (by simp))
        have hl := fo_line X W d hd pa pc xs (by rw [hm]; exact hm1) (by rw [hm]; exact ownsRow_far hpe hbr) (by omega)
        rw [hm] at hl
        refine hl.mono ?_
        rintro e w' ⟨⟨v, rfl, k1⟩, hb2⟩
        obtain ⟨ao', cv, rfl⟩ := ownsRow_slice k1
        have hnew := (hb.block wr.heap.size (by simp)).trans (heap_alloc_new wr (.cells #[.int .i64 2, .int .i64 d, .slice pa m pc, .slice none 0 0] 33))
        have hbr2 : Below wr.heap.size wr w' := hbr.trans (below_far hb2 hbr.size)
        exact ⟨ao', cv, rfl, ownsRow_mono k1 (Nat.le_trans hsz hbr.size), (hb2.block _ (Lib.lt_of_heap hnew)).trans hnew, (hbr2.block _ (Lib.lt_of_heap HA.out)).trans HA.out, (hbr2.block _ (Lib.lt_of_heap HBk.out)).trans HBk.out,
          HKD.out.far hbr2, HB.out.trans (below_far hbr2 HB.out.size), Nat.le_trans hsz hbr2.size⟩
      have HCALL := Lib.hid hcall
      have hc0 := fun o => (cell_four ((Below.heap_alloc wr o _ (Lib.lt_of_heap HBk.out)).trans HBk.out)).2.2.2
      have hzf := fun o => Lib.frozen_of_heap ((Below.heap_alloc wr o _ (Lib.lt_of_heap HBk.out)).trans HBk.out) 3
      have hnw := heap_alloc_new wr (.cells #[.int .i64 2, .int .i64 d, .slice pa m pc, .slice none 0 0] 33)
      obtain ⟨n0, n1, n2, n3⟩ := cell_four hnw
      have HMQ := Lib.hid hmq
      clear hcall hp hkw hpm hpe hps hm1 hm2 hmq hxs hm hform hnw
      go_upto_block 1 with fail
      go_cut [] (fun wx => ∃ (L2 : List (Value × List Nat)) (kv' : Value), L2.length = i + 1 ∧ wx.heap[w.heap.size + 1]? = some (.cells #[.int .i64 0, .int .i64 0, .slice none 0 0, .slice none 0 0] 33 (0, 0)) ∧ wx.heap[w.heap.size + 1 + 1]? = some (.cells #[.int .i64 3, .int .i64 d, .slice ao5 0 c5, kv'] 33 (0, 0)) ∧
        Kds (w.heap.size + 3) d wx kv' L2 ∧ L2.map (·.2) = (L.map (·.2)).take (i + 1) ∧ Below w.heap.size w wx ∧ w.heap.size + 3 ≤ wx.heap.size)
      case first =>
        go_upto_region 6 with fail
        have hH6 : ∀ w5 w6 : World, ∀ o, w5.heap[w.heap.size + 1]? = some (.cells #[.int .i64 0, .int .i64 0, .slice none 0 0, .slice none 0 0] 33 (0, 0)) → w5.heap[w.heap.size + 1 + 1]? = some (.cells #[.int .i64 3, .int .i64 d, .slice ao5 0 c5, kv] 33 (0, 0)) →
            Kds (w.heap.size + 3) d w5 kv L' → (w5.alloc o).grownBy w6 kv.ownBlock → w6.heap[w.heap.size + 1]? = some (.cells #[.int .i64 0, .int .i64 0, .slice none 0 0, .slice none 0 0] 33 (0, 0)) ∧ w6.heap[w.heap.size + 1 + 1]? = some (.cells #[.int .i64 3, .int .i64 d, .slice ao5 0 c5, kv] 33 (0, 0)) := by
          intro w5 w6 o h5 h6 h7 hg
          have hlt5 := Lib.lt_of_heap h5
          have hlt6 := Lib.lt_of_heap h6
          refine ⟨(hg.block _ (by simp; omega) (fun e => ?_)).trans ((Below.heap_alloc w5 o _ hlt5).trans h5), (hg.block _ (by simp; omega) (fun e => ?_)).trans ((Below.heap_alloc w5 o _ hlt6).trans h6)⟩
          · have := (h7.own.lt _ e.symm).1
            omega
          · have := (h7.own.lt _ e.symm).1
            omega
        have HH6 := Lib.hid hH6
        clear hH6
        go_region_law
          (first | ((go_simp; go_at_call 34; refine (HCALL.out (wr.alloc (.cells #[.int .i64 2, .int .i64 d, .slice pa m pc, .slice none 0 0] 33)).drew ⟨rfl, rfl, rfl, Nat.le_refl _, fun _ _ => rfl⟩).mono ?_; rintro e w5 ⟨ao', cv, rfl, k1, k2, k5, k6, k7, k8, k9⟩; have hk5 := (cell_four k6).2.2.2; have hz5 := Lib.frozen_of_heap k6 3; obtain ⟨q0, q1, q2, q3⟩ := cell_four k2; have hk5a := fun o => (cell_four ((Below.heap_alloc w5 o _ (Lib.lt_of_heap k6)).trans k6)).2.2.2; have hz5a := fun o => Lib.frozen_of_heap ((Below.heap_alloc w5 o _ (Lib.lt_of_heap k6)).trans k6) 3)) | ((refine step_append_lies _ (by rfl) (.tmp 28) (.tmp 32) 31 (by rfl) (w.heap.size + 3) 33 i0 (.agg #[.int .i64 0, .int .i64 0, .slice none 0 0, .slice none 0 0]) 4 64 Tryz.underlying31 hi hz0 hz1 hz2 rfl (by decide) kv L'.length (kc d L') (by rfl) (k7.own.alloc _) ⟨w5.heap.size, 0, none⟩ 1 1 [.int .i64 2, .int .i64 d, .slice ao' m cv, .slice none 0 0] (by rfl) rfl (World.news_of_block (heap_alloc_new w5 _)) (by intro u hu; simp at hu; rcases hu with rfl | rfl | rfl | rfl <;> rfl) (by decide) (by unfold maxLen; omega) (by omega) (by simp; omega) _ rfl ?_; intro g6 cap6 w6 hown6 hgrow hat hlt; have hH := HH6.out _ _ _ k5 k6 k7 hgrow; have hk6 := (cell_four hH.2).2.2.2; have hz6 := Lib.frozen_of_heap hH.2 3)) | fail)
        all_goals
          go_wp2
          go_meet
          have hB6 := Lib.heap_setCell_same (i := 3) hH.2 (.slice (some ⟨g6, 0, none⟩) (L'.length + 1) cap6)
          have hA6 := (Below.heap_setCell w6 ⟨w.heap.size + 1 + 1, 3, none⟩ (.slice (some ⟨g6, 0, none⟩) (L'.length + 1) cap6) (w.heap.size + 1) (by show w.heap.size + 1 ≠ w.heap.size + 1 + 1; omega)).trans hH.1
          have hb56 : Below (w.heap.size + 3) w5 w6 := ((Below.refl (w.heap.size + 3) w5).alloc k9 _).grown hgrow (by simp; omega) (fun k e => (k7.own.lt k e).1)
          refine ⟨L' ++ [(.slice ao' m cv, xs)], _, by have := HLI.out; simp; omega, hA6, hB6, (k7.snoc (by rw [HM.out]; exact k1) hgrow hown6).setB (by omega) _, by rw [List.map_append]; exact HMQ.out,
            (k8.trans ⟨hb56.os, hb56.tape, hb56.output, hb56.size, fun k hk => hb56.block k (by omega)⟩).setCell (p := ⟨w.heap.size + 1 + 1, 3, none⟩) (by show w.heap.size ≤ w.heap.size + 1 + 1; omega) _, ?_⟩
          have := hb56.size
          simp [World.setCell]
          omega
      case rest =>
        obtain ⟨L2, kv', h1, h2, h3, h4, h5, h6, h7⟩ := hcut
        have K1 := Lib.hid h1
        have K2 := Lib.hid h2
        have K3 := Lib.hid h3
        have K4 := Lib.hid h4
        have K5 := Lib.hid h5
        have K6 := Lib.hid h6
        clear h1 h2 h3 h4 h5 h6 hc0 hzf n0 n1 n2 n3 d0 d1 d2 d3
        go_wp2
        go_roundg (gk - 1)
        case measure => have := HI.out; omega
        case rel => exact ⟨i + 1, L2, kv', by go_num, by have := HI.out; omega, K1.out, K2.out, K3.out, K4.out, K5.out, K6.out, h7⟩
    · have hlt' : ¬ (i : Int) < n := by omega
      have hin : i = L.length := by have := HI.out; have := HN.out; omega
      have hmp := HMP.out
      rw [hin, List.take_of_length_le (by simp)] at hmp
      have HMP2 := Lib.hid hmp
      obtain ⟨ak, ck, hkv⟩ := ownsRow_slice HKD.out.own
      generalize hll : L'.length = ll at hkv
      subst hkv
      obtain ⟨b0, b1, b2, b3⟩ := cell_four HA.out
      obtain ⟨c0, c1, c2, c3⟩ := cell_four HBk.out
      have z1 := Lib.frozen_of_heap HA.out
      have HKD2 := HKD
      have hszz := HB.out.size
      clear hmp hin hll
      go_wp2
      refine bodyPost_ret (res_cell rfl _ _ (w.heap.size + 1) 33 #[_, _, _, _] (0, 0) _ rfl (f4_heap HA.out) Tryz.underlying33 (by kernel_rfl)) rfl ?_
      refine ⟨⟨ao5, c5, _, rfl, L', ?_, HMP2.out⟩, HB.out.trans ((Below.refl w.heap.size _).grown f4_grown hszz (fun k e => by injection e with e; omega))⟩
      exact ((((HKD2.out.setB (g := w.heap.size + 1) (by omega) _).setB (by omega) _).setB (by omega) _).setB (by omega) _).mono (by omega)
end Go.Proofs.YthfjakbpeclfcaaGreatDoor

namespace Go.Proofs.YthfjakbpeclfcaaGreatDoor
open Go.RowKit Go
attribute [local go_sem] fb40
attribute [local go_sem ↓] Go.wp_at_zero Go.wp_at_succ

theorem fl_cell {w : World} {X : Nat} {g cp n : Nat} {xs : List Nat} (h : w.ownsRow X 79 1 (.slice (some ⟨g, 0, none⟩) n cp) n (fl xs)) {i x : Nat} (hi : xs[i]? = some x) (hn : i < n) : w.cell? ⟨g, i, none⟩ = some (.float .f64 x) := by
  rw [h.cellAt i (by omega)]
  unfold fl
  rw [List.getElem?_map, hi]
  rfl
set_option maxHeartbeats 4000000 in
set_option maxRecDepth 100000 in
theorem sn_eq (X Y : Nat) (w : World) (xs : List Nat) (ao bo : Option Addr) (n c1 c2 : Nat) (hn : n = xs.length) (h1 : w.ownsRow X 79 1 (.slice ao n c1) n (fl xs)) (h2 : w.ownsRow Y 79 1 (.slice bo n c2) n (fl xs)) (hl : n ≤ 500000) :
    Calls Tryz.prog 20 #[.slice ao n c1, .slice bo n c2] w fun e w' => e = .returned (.bool true) ∧ ∃ m, w' = w.drewN m := by
  have H1 := Lib.hid h1
  have H2 := Lib.hid h2
  have HN := Lib.hid hn
  have hnn : ((n : Int) != (n : Int)) = false := by simp
  clear h1 h2 hn
  go_enter Tryz.func20, Tryz.ntmps20
  go_wp2
  go_loopg [14] n (fun G s14 wr => ∃ i m : Nat, s14 = .int .i64 i ∧ i + G = n ∧ wr = w.drewN m)
  case atStart => exact ⟨0, 0, rfl, by omega, rfl⟩
  case round =>
    obtain ⟨i, m, rfl, hi, rfl⟩ := hrel
    have HI := Lib.hid hi
    clear hi
    by_cases hlt : i < n
    · have hlt' : (i : Int) < n := by omega
      obtain ⟨x, hx⟩ : ∃ x, xs[i]? = some x := ⟨_, List.getElem?_eq_getElem (by have := HN.out; omega)⟩
      obtain ⟨g1, q1, hf1, -, -⟩ := H1.out.form (by omega)
      obtain ⟨g2, q2, hf2, -, -⟩ := H2.out.form (by omega)
      obtain rfl : ao = some ⟨g1, 0, none⟩ := by injection hf1
      obtain rfl : bo = some ⟨g2, 0, none⟩ := by injection hf2
      have k1 := fl_cell H1.out hx hlt
      have k2 := fl_cell H2.out hx hlt
      have hi0 : (0 : Int) ≤ i := by omega
      clear hx hf1 hf2
      go_wp2
      go_quiet (fail)
      go_wp2
      go_roundg (gk - 1)
      case measure => have := HI.out; omega
      case rel => exact ⟨i + 1, _, by go_num, by have := HI.out; omega, rfl⟩
    · have hlt' : ¬ (i : Int) < n := by omega
      go_wp2
      go_ret
      exact ⟨rfl, m, rfl⟩
theorem sgs_nil (w : World) : Calls Tryz.prog 21 #[.slice none 0 0, .slice none 0 0] w fun e w' => e = .returned (.bool true) ∧ w' = w := by
  go_enter Tryz.func21, Tryz.ntmps21
  go_wp2
  go_loopg [14] 1 (fun G s14 wr => s14 = .int .i64 0 ∧ wr = w)
  case atStart => exact ⟨rfl, rfl⟩
  obtain ⟨rfl, rfl⟩ := hrel
  go_wp2
  go_ret
  exact ⟨rfl, rfl⟩
set_option maxHeartbeats 4000000 in
set_option maxRecDepth 100000 in
theorem sg_gen (k : Int) (w : World) (d : Nat) (ao bo : Option Addr) (n c1 c2 : Nat) (hs : ∀ W, Below w.heap.size w W → Calls Tryz.prog 20 #[.slice ao n c1, .slice bo n c2] W fun e w' => e = .returned (.bool true) ∧ ∃ m, w' = W.drewN m)
    (a1 a2 : Option Addr) (m e1 e2 : Nat) (hk : ∀ W, Below w.heap.size w W → Calls Tryz.prog 21 #[.slice a1 m e1, .slice a2 m e2] W fun e w' => e = .returned (.bool true) ∧ Below W.heap.size W w') :
    Calls Tryz.prog 11 #[.agg #[.int .i64 k, .int .i64 d, .slice ao n c1, .slice a1 m e1], .agg #[.int .i64 k, .int .i64 d, .slice bo n c2, .slice a2 m e2]] w fun e w' => e = .returned (.bool true) ∧ Below w.heap.size w w' := by
  have hb0 : Below w.heap.size w ((w.alloc (.cells #[.int .i64 k, .int .i64 d, .slice ao n c1, .slice a1 m e1] 33)).alloc (.cells #[.int .i64 k, .int .i64 d, .slice bo n c2, .slice a2 m e2] 33)) := ((Below.refl _ _).alloc (Nat.le_refl _) _).alloc (by simp) _
  have hA := heap_alloc2_old w (.cells #[.int .i64 k, .int .i64 d, .slice ao n c1, .slice a1 m e1] 33) (.cells #[.int .i64 k, .int .i64 d, .slice bo n c2, .slice a2 m e2] 33)
  have hB := heap_alloc2_new w (.cells #[.int .i64 k, .int .i64 d, .slice ao n c1, .slice a1 m e1] 33) (.cells #[.int .i64 k, .int .i64 d, .slice bo n c2, .slice a2 m e2] 33)
  have hsn := hs _ hb0
  have hks := fun j : Nat => hk (((w.alloc (.cells #[.int .i64 k, .int .i64 d, .slice ao n c1, .slice a1 m e1] 33)).alloc (.cells #[.int .i64 k, .int .i64 d, .slice bo n c2, .slice a2 m e2] 33)).drewN j) (hb0.trans ⟨rfl, rfl, rfl, Nat.le_refl _, fun _ _ => rfl⟩)
  have hkk : (k == k) = true := by simp
  have hdd : ((d : Int) == (d : Int)) = true := by simp
  have HB0 := Lib.hid hb0
  have HKS := Lib.hid hks
  clear hs hk hb0 hks hA hB
  go_enter Tryz.func11, Tryz.ntmps11
  go_wp2_with fail
  refine hsn.mono ?_
  rintro e w2 ⟨rfl, j, rfl⟩
  go_wp2_with fail
  refine (HKS.out j).mono ?_
  rintro e w3 ⟨rfl, hb3⟩
  have HB3 := Lib.hid (HB0.out.trans (below_far (show Below ((w.alloc (.cells #[.int .i64 k, .int .i64 d, .slice ao n c1, .slice a1 m e1] 33)).alloc (.cells #[.int .i64 k, .int .i64 d, .slice bo n c2, .slice a2 m e2] 33)).heap.size ((w.alloc (.cells #[.int .i64 k, .int .i64 d, .slice ao n c1, .slice a1 m e1] 33)).alloc (.cells #[.int .i64 k, .int .i64 d, .slice bo n c2, .slice a2 m e2] 33)) w3 from ⟨hb3.os, hb3.tape, hb3.output, hb3.size, hb3.block⟩) HB0.out.size))
  clear hb3 hsn
  go_wp2
  go_ret
  exact ⟨rfl, HB3.out⟩
set_option maxHeartbeats 4000000 in
set_option maxRecDepth 100000 in
theorem sgs_eq (X Y : Nat) (w : World) (d : Nat) (L1 L2 : List (Value × List Nat)) (ao bo : Option Addr) (n c1 c2 : Nat) (hn : n = L1.length) (hm : L2.map (·.2) = L1.map (·.2)) (h1 : Kds X d w (.slice ao n c1) L1) (h2 : Kds Y d w (.slice bo n c2) L2) (hl : n ≤ 500000) (hL : ∀ p, p ∈ L1 → p.2.length ≤ 500000) :
    Calls Tryz.prog 21 #[.slice ao n c1, .slice bo n c2] w fun e w' => e = .returned (.bool true) ∧ Below w.heap.size w w' := by
  have H1 := Lib.hid h1
  have H2 := Lib.hid h2
  have HN := Lib.hid hn
  have HM := Lib.hid hm
  have HL := Lib.hid hL
  have hnn : ((n : Int) != (n : Int)) = false := by simp
  have hn2 : L2.length = L1.length := by have := congrArg List.length hm; simpa using this
  have HN2 := Lib.hid hn2
  clear h1 h2 hn hm hL hn2
  go_enter Tryz.func21, Tryz.ntmps21
  go_wp2
  go_loopg [14] n (fun G s14 wr => ∃ i : Nat, s14 = .int .i64 i ∧ i + G = n ∧ Below w.heap.size w wr)
  case atStart => exact ⟨0, rfl, by omega, Below.refl _ _⟩
  case round =>
    obtain ⟨i, rfl, hi, hb⟩ := hrel
    have HI := Lib.hid hi
    have HB := Lib.hid hb
    clear hi hb
    by_cases hlt : i < n
    · have hlt' : (i : Int) < n := by omega
      have hi0 : (0 : Int) ≤ i := by omega
      obtain ⟨p, hp⟩ : ∃ p, L1[i]? = some p := ⟨_, List.getElem?_eq_getElem (by have := HN.out; omega)⟩
      obtain ⟨q, hq⟩ : ∃ q, L2[i]? = some q := ⟨_, List.getElem?_eq_getElem (by have := HN.out; have := HN2.out; omega)⟩
      have hpq : q.2 = p.2 := by
        have h1 : (L2.map (·.2))[i]? = some q.2 := by rw [List.getElem?_map, hq]; rfl
        rw [HM.out, List.getElem?_map, hp] at h1
        injection h1 with h1
        exact h1.symm
      have k1 := H1.out.far HB.out
      have k2 := H2.out.far HB.out
      obtain ⟨g1, q1, hf1, -, -⟩ := k1.own.form (by have := HN.out; omega)
      obtain ⟨g2, q2, hf2, -, hg2⟩ := k2.own.form (by have := HN.out; have := HN2.out; omega)
      obtain rfl : ao = some ⟨g1, 0, none⟩ := by injection hf1
      obtain rfl : bo = some ⟨g2, 0, none⟩ := by injection hf2
      obtain ⟨a0, a1, a2, a3⟩ := k1.at HN.out i p hp
      obtain ⟨b0, b1, b2, b3⟩ := k2.at (by have := HN.out; have := HN2.out; omega) i q hq
      have ba := fun o => (k2.far ((Below.refl wr.heap.size wr).alloc (Nat.le_refl _) o)).at (by have := HN.out; have := HN2.out; omega) i q hq
      have pe := k1.each p (List.mem_of_getElem? hp)
      have qe := k2.each q (List.mem_of_getElem? hq)
      obtain ⟨pa, pc, hps⟩ := ownsRow_slice pe
      obtain ⟨qa, qc, hqs⟩ := ownsRow_slice qe
      have hpl := HL.out p (List.mem_of_getElem? hp)
      rw [hps] at a2 pe
      rw [hqs] at qe ba b2
      rw [hpq] at qe ba b2
      generalize p.2 = xs at *
      have hcall : ∀ W, Below wr.heap.size wr W → Calls Tryz.prog 11 #[.agg #[.int .i64 2, .int .i64 d, .slice pa xs.length pc, .slice none 0 0], .agg #[.int .i64 2, .int .i64 d, .slice qa xs.length qc, .slice none 0 0]] W fun e w' => e = .returned (.bool true) ∧ Below W.heap.size W w' :=
        fun W hW => sg_gen 2 W d pa qa xs.length pc qc (fun W' hW' => sn_eq X Y W' xs pa qa xs.length pc qc rfl (ownsRow_far pe (hW.trans (below_far hW' hW.size))) (ownsRow_far qe (hW.trans (below_far hW' hW.size))) hpl) none none 0 0 0 (fun W' _ => (sgs_nil W').mono (by rintro e w' ⟨rfl, rfl⟩; exact ⟨rfl, Below.refl _ _⟩))
      have HC := Lib.hid hcall
      have ba0 := fun o => (ba o).1
      have ba1 := fun o => (ba o).2.1
      have ba2 := fun o => (ba o).2.2.1
      have ba3 := fun o => (ba o).2.2.2
      have hnw := heap_alloc_new wr (.cells #[.int .i64 2, .int .i64 d, .slice pa xs.length pc, .slice none 0 0] 33)
      obtain ⟨n0, n1, n2, n3⟩ := cell_four hnw
      clear hcall hp hq hpq k1 k2 hf1 hf2 pe qe hps hqs hpl ba hnw
      generalize xs.length = m at *
      go_upto_region 6 with fail
      go_cut [25] (fun s25 wx => s25 = .bool false ∧ Below wr.heap.size wr wx)
      case first =>
        go_region_law
          (first | ((go_simp; go_at_call 11; refine (HC.out (wr.alloc (.cells #[.int .i64 2, .int .i64 d, .slice pa m pc, .slice none 0 0] 33)).drew (((Below.refl _ _).alloc (Nat.le_refl _) _).trans ⟨rfl, rfl, rfl, Nat.le_refl _, fun _ _ => rfl⟩)).mono ?_; rintro e w5 ⟨rfl, hb5⟩)) | fail)
        all_goals
          go_wp2
          go_meet
          exact ⟨rfl, ((Below.refl _ _).alloc (Nat.le_refl _) _).trans (below_far (show Below (wr.alloc (.cells #[.int .i64 2, .int .i64 d, .slice pa m pc, .slice none 0 0] 33)).heap.size (wr.alloc (.cells #[.int .i64 2, .int .i64 d, .slice pa m pc, .slice none 0 0] 33)) w5 from ⟨hb5.os, hb5.tape, hb5.output, hb5.size, hb5.block⟩) (by simp))⟩
      case rest =>
        obtain ⟨rfl, hbx⟩ := hcut
        have HBX := Lib.hid (HB.out.trans (below_far hbx HB.out.size))
        clear hbx ba0 ba1 ba2 ba3 n0 n1 n2 n3 a0 a1 a2 a3 b0 b1 b2 b3
        go_wp2
        go_roundg (gk - 1)
        case measure => have := HI.out; omega
        case rel => exact ⟨i + 1, by go_num, by have := HI.out; omega, HBX.out⟩
    · have hlt' : ¬ (i : Int) < n := by omega
      go_wp2
      go_ret
      exact ⟨rfl, HB.out⟩
theorem sn_zero (ao bo : Option Addr) (c1 c2 : Nat) (w : World) : Calls Tryz.prog 20 #[.slice ao 0 c1, .slice bo 0 c2] w fun e w' => e = .returned (.bool true) ∧ ∃ m, w' = w.drewN m := by
  go_enter Tryz.func20, Tryz.ntmps20
  go_wp2
  go_loopg [14] 1 (fun G s14 wr => s14 = .int .i64 0 ∧ wr = w)
  case atStart => exact ⟨rfl, rfl⟩
  obtain ⟨rfl, rfl⟩ := hrel
  go_wp2
  go_ret
  exact ⟨rfl, 0, rfl⟩
/-- Equal polygons. -/
theorem sg_poly (X Y : Nat) (w : World) (d : Nat) (L1 L2 : List (Value × List Nat)) (xo yo ao bo : Option Addr) (x y n c1 c2 : Nat) (hn : n = L1.length) (hm : L2.map (·.2) = L1.map (·.2)) (h1 : Kds X d w (.slice ao n c1) L1) (h2 : Kds Y d w (.slice bo n c2) L2) (hl : n ≤ 500000) (hL : ∀ p, p ∈ L1 → p.2.length ≤ 500000) :
    Calls Tryz.prog 11 #[.agg #[.int .i64 3, .int .i64 d, .slice xo 0 x, .slice ao n c1], .agg #[.int .i64 3, .int .i64 d, .slice yo 0 y, .slice bo n c2]] w fun e w' => e = .returned (.bool true) ∧ Below w.heap.size w w' :=
  sg_gen 3 w d xo yo 0 x y (fun W _ => sn_zero xo yo x y W) ao bo n c1 c2 (fun W hW => sgs_eq X Y W d L1 L2 ao bo n c1 c2 hn hm (h1.far hW) (h2.far hW) hl hL)
end Go.Proofs.YthfjakbpeclfcaaGreatDoor
