/-
  The implementation's DumpRings and plainLine.
  The implementation's plainPolygon.
-/
import Derived.Test.YthfjakbpeclfcaaGreatDoorIb
import Derived.Laws.CopyOwn
import Derived.Test.YthfjakbpeclfcaaGreatDoorGFo
namespace Go.Proofs.YthfjakbpeclfcaaGreatDoor
open Go.RowKit Go

/-- copy of a whole row of elements of any size into a row of the same length. -/
theorem run_copy_whole {P : Program} (w : World) (dT sT ty elem : TypeId) (i : TypeInfo) (size g n dc X Y : Nat) (zs xs : List Value) (sv : Value)
    (hu : P.underlying dT = some (.slice elem)) (hi : P.info? elem = some i) (hsz : i.size = size)
    (hd : w.ownsRow Y elem size (.slice (some ⟨g, 0, none⟩) n dc) n zs) (hs : w.ownsRow X elem size sv n xs) (h1 : ∀ v ∈ xs, v.oneCell' = true) :
    ∃ w', (Builtin.copy_ #[dT, sT] ty #[.slice (some ⟨g, 0, none⟩) n dc, sv]).run P w = .ok (goInt n) w' ∧ w'.ownsRow Y elem size (.slice (some ⟨g, 0, none⟩) n dc) n xs ∧ Below g w w' := by
  subst hsz
  obtain ⟨-, hd2⟩ := hd
  rcases hd2 with ⟨h, -⟩ | ⟨g', cap, cur, h, hY, hg, hnc, hcm, hcs, -⟩
  · simp at h
  simp at h
  obtain ⟨rfl, rfl⟩ := h
  have hxl := hs.1
  rcases hs.2 with ⟨rfl, h0⟩ | ⟨g2, cap2, cur2, rfl, -, hg2, hnc2, -, hcs2, htk⟩
  · subst h0
    have hx : xs = [] := List.length_eq_zero_iff.1 (by omega)
    subst hx
    refine ⟨w, ?_, ⟨by simp, .inr ⟨g, dc, cur, rfl, hY, hg, hnc, hcm, hcs, by simp⟩⟩, Below.refl _ _⟩
    simp [Builtin.copy_, run_underlying hu, Builtin.lenOf, Builtin.firstCells, sizeOf, typeInfo, hi, storeCells]
  · have hsrc : ∀ j v, xs[j]? = some v → w.cell? ((⟨g2, 0, none⟩ : Addr).add j) = some v := by
      intro j v hv
      have hj : j < n * i.size := by
        have := (List.getElem?_eq_some_iff.1 hv).1
        omega
      have := World.ownsRow.cellAt hs j hj
      rw [hv] at this
      show w.cell? (if j = 0 then (⟨g2, 0, none⟩ : Addr) else ⟨g2, 0 + j, none⟩) = some v
      split
      · subst j; exact this
      · rw [Nat.zero_add]; exact this
    have hl := run_loadCells_list (P := P) w ⟨g2, 0, none⟩ xs hsrc
    rw [hxl] at hl
    have hle : n * i.size ≤ dc * i.size := Nat.mul_le_mul_right _ hnc
    have hst := run_storeCells_at P g 0 elem xs 0 cur w hg (by omega) h1
    refine ⟨w.setRow g ([] ++ xs ++ cur.toList.drop xs.length).toArray, ?_, ⟨hxl, .inr ⟨g, dc, _, rfl, hY, setRow_heap w g _ _ _ _ hg, hnc, hcm, ?_, ?_⟩⟩, below_setRow (Below.refl _ _) (Nat.le_refl _) _⟩
    · simp [Builtin.copy_, run_underlying hu, Builtin.lenOf, Builtin.firstCells, sizeOf, typeInfo, hi, hl]
      simp at hst
      rw [hst]
      rfl
    · simp
      omega
    · simp [← hxl]
set_option maxHeartbeats 2000000 in
set_option maxRecDepth 100000 in
theorem dump_any (X : Nat) (w : World) (d : Nat) (ao : Option Addr) (n c : Nat) (L : List (Value × List Nat)) (hn : n = L.length) (hr : Rows X d w (.slice ao n c) L) (hX : X ≤ w.heap.size) (hl : n ≤ 100000) :
    Calls Tryz.prog 25 #[.agg #[.slice ao n c, .int .u8 d]] w fun e w' => (∃ v', e = .returned v' ∧ Rows X d w' v' L) ∧ Below w.heap.size w w' := by
  obtain ⟨i0, hi, hz0, hz1, hz2⟩ := info_parts inf67
  have hone := rc_one hr
  have hrw := hr.far (w' := w.alloc (.cells #[.slice ao n c, .int .u8 d] 41)) ((Below.refl _ _).alloc (Nat.le_refl _) _)
  have HR := Lib.hid hr
  have HRW := Lib.hid hrw
  have HN := Lib.hid hn
  have HONE := Lib.hid hone
  clear hr hone hrw hn
  go_enter Tryz.func25, Tryz.ntmps25
  go_wp2_with (at_make; refine wpList_make_full _ rfl _ _ 38 rfl w.heap.size 67 i0 (.agg #[.int .u8 0, .slice none 0 0]) 2 Tryz.underlying38 hi hz0 hz1 .i64 .i64 _ _ n rfl rfl rfl rfl (by rw [hz2]; omega) (by unfold maxLen; omega) (by simp) ?_)
  intro w2 hown2 hgrow2
  have hbw : Below w.heap.size w (w.alloc (.cells #[.slice ao n c, .int .u8 d] 41)) := (Below.refl _ _).alloc (Nat.le_refl _) _
  have hb12 : Below (w.alloc (.cells #[.slice ao n c, .int .u8 d] 41)).heap.size (w.alloc (.cells #[.slice ao n c, .int .u8 d] 41)) w2 := (Below.refl _ _).grown hgrow2 (Nat.le_refl _) (fun k e => by cases e)
  have hb2 := hbw.trans (below_far hb12 hbw.size)
  obtain ⟨a0, a1⟩ := cell_two (rb_far (heap_alloc_new w (.cells #[.slice ao n c, .int .u8 d] 41)) hb12)
  have hR2 := HR.out.far hb2
  have hso := hR2.own
  rw [← HN.out] at hso
  have HSO := Lib.hid hso
  have HR2 := Lib.hid hR2
  have HB2 := Lib.hid hb2
  have hsz : (w.alloc (.cells #[.slice ao n c, .int .u8 d] 41)).heap.size = w.heap.size + 1 := by simp
  have HO2 := Lib.hid hown2
  clear hbw hb12 hb2 hR2 hso hown2 hgrow2
  obtain ⟨w3, hrun, hown3, hb3⟩ := run_copy_whole (P := Tryz.prog) w2 38 38 3 67 i0 2 (w.heap.size + 1) n n X w.heap.size _ (rc d L) (.slice ao n c) Tryz.underlying38 hi hz1 HO2.out HSO.out HONE.out
  have HB3 := Lib.hid (HB2.out.trans (show Below w.heap.size w2 w3 from ⟨hb3.os, hb3.tape, hb3.output, hb3.size, fun k hk => hb3.block k (by omega)⟩))
  have HO3 := Lib.hid hown3
  clear hown3 hb3
  go_wp2
  go_ret
  refine ⟨⟨_, rfl, ⟨?_, fun p hp => (HR.out.far HB3.out).each p hp⟩⟩, HB3.out⟩
  rw [← HN.out]
  exact ownsRow_mono HO3.out hX
set_option maxHeartbeats 1000000 in
set_option maxRecDepth 100000 in
theorem line_any (X : Nat) (w : World) (d : Nat) (hd : d < 4) (ao : Option Addr) (n cp : Nat) (xs : List Nat) (hm : xs.length % dimW d = 0) (hn : n = xs.length) (hown : w.ownsRow X 79 1 (.slice ao n cp) n (fl xs)) (hlen : n ≤ 500000) :
    Calls Tryz.prog 26 #[.agg #[.int .u8 d, .slice ao n cp]] w fun e w' => (∃ v, e = .returned (.agg #[.int .i64 2, .int .i64 d, v, .slice none 0 0]) ∧ w'.ownsRow w.heap.size 79 1 v n (fl xs)) ∧ Below w.heap.size w w' := by
  have hb0 : Below w.heap.size w ((w.alloc (.cells #[.int .u8 d, .slice ao n cp] 67)).alloc (.cells #[.int .i64 0, .int .i64 0, .slice none 0 0, .slice none 0 0] 33)) := ((Below.refl _ _).alloc (Nat.le_refl _) _).alloc (by simp) _
  have h := lco_any d ao n cp ((w.alloc (.cells #[.int .u8 d, .slice ao n cp] 67)).alloc (.cells #[.int .i64 0, .int .i64 0, .slice none 0 0, .slice none 0 0] 33))
  have hnew := heap_alloc2_new w (.cells #[.int .u8 d, .slice ao n cp] 67) (.cells #[.int .i64 0, .int .i64 0, .slice none 0 0, .slice none 0 0] 33)
  have hseq : ∀ W, Below w.heap.size w W → _ := fun W hb => seq_any X W d hd ao n cp xs hm hn (ownsRow_far hown hb) hlen
  have HS := Lib.hid hseq
  have HB0 := Lib.hid hb0
  have HN := Lib.hid hnew
  clear hb0 hnew hseq hown hm hn
  go_enter Tryz.func26, Tryz.ntmps26
  go_wp2_with fail
  refine h.mono ?_
  rintro e w1 ⟨rfl, hb⟩
  have hbw := HB0.out.trans (below_far hb HB0.out.size)
  have hs := HS.out w1 hbw
  have HRB := Lib.hid (rb_far HN.out hb)
  have HBW := Lib.hid hbw
  clear h hb hbw
  go_wp2_with fail
  refine hs.mono ?_
  rintro e w2 ⟨⟨v, rfl, ho⟩, hb2⟩
  obtain ⟨a2, c2, rfl⟩ := ownsRow_slice ho
  have hrb2 := rb_far HRB.out hb2
  obtain ⟨c0, c1, cc2, cc3⟩ := cell_four hrb2
  have z := Lib.frozen_of_heap hrb2
  have HRB2 := Lib.hid hrb2
  have HO := Lib.hid ho
  have HB2 := Lib.hid (HBW.out.trans (below_far hb2 HBW.out.size))
  have hlt := Lib.lt_of_heap HRB.out
  clear hrb2 ho hb2 hs
  go_wp2
  refine bodyPost_ret (res_cell rfl _ _ (w.heap.size + 1) 33 #[_, _, _, _] (0, 0) _ rfl (f4_heap HRB2.out) Tryz.underlying33 (by kernel_rfl)) rfl ?_
  exact ⟨⟨_, rfl, ownsRow_mono (f4_ownB HO.out (by omega)) (by omega)⟩, HB2.out.trans ((Below.refl w.heap.size _).grown f4_grown HB2.out.size (fun k e => by injection e with e; omega))⟩
end Go.Proofs.YthfjakbpeclfcaaGreatDoor

namespace Go.Proofs.YthfjakbpeclfcaaGreatDoor
open Go.RowKit Go
attribute [local go_sem ↓] Go.wp_at_zero Go.wp_at_succ

set_option maxHeartbeats 8000000 in
set_option maxRecDepth 100000 in
theorem poly_any (X : Nat) (w : World) (d : Nat) (hd : d < 4) (ao : Option Addr) (n cp : Nat) (L : List (Value × List Nat)) (hn : n = L.length) (hr : Rows X d w (.slice ao n cp) L) (hX : X ≤ w.heap.size) (hL : ∀ p, p ∈ L → p.2.length % dimW d = 0 ∧ p.2.length ≤ 500000) (hl : L.length ≤ 100000) :
    Calls Tryz.prog 14 #[.agg #[.slice ao n cp, .int .u8 d]] w fun e w' => (∃ v L', e = .returned (.agg #[.int .i64 3, .int .i64 d, .slice none 0 0, v]) ∧ Kds w.heap.size d w' v L' ∧ L'.map (·.2) = L.map (·.2)) ∧ Below w.heap.size w w' := by
  obtain ⟨i0, hi, hz0, hz1, hz2⟩ := info_parts inf33
  have hA := heap_alloc2_old w (.cells #[.slice ao n cp, .int .u8 d] 41) (.cells #[.int .i64 0, .int .i64 0, .slice none 0 0, .slice none 0 0] 33)
  have hB := heap_alloc2_new w (.cells #[.slice ao n cp, .int .u8 d] 41) (.cells #[.int .i64 0, .int .i64 0, .slice none 0 0, .slice none 0 0] 33)
  have hb0 : Below w.heap.size w ((w.alloc (.cells #[.slice ao n cp, .int .u8 d] 41)).alloc (.cells #[.int .i64 0, .int .i64 0, .slice none 0 0, .slice none 0 0] 33)) := ((Below.refl _ _).alloc (Nat.le_refl _) _).alloc (by simp) _
  have hct := fun W => pct_any d ao n cp W
  have hdp : ∀ W, Below w.heap.size w W → _ := fun W hb => dump_any X W d ao n cp L hn (hr.far hb) (Nat.le_trans hX hb.size) (by omega)
  generalize hww : (w.alloc (.cells #[.slice ao n cp, .int .u8 d] 41)).alloc (.cells #[.int .i64 0, .int .i64 0, .slice none 0 0, .slice none 0 0] 33) = W1 at *
  have HWW := Lib.hid hww
  have HA := Lib.hid hA
  have HB := Lib.hid hB
  have HB0 := Lib.hid hb0
  have HR := Lib.hid hr
  have HL := Lib.hid hL
  have HN := Lib.hid hn
  have HDP := Lib.hid hdp
  have hnl : n ≤ 100000 := by omega
  have hlt1 := Lib.lt_of_heap hB
  clear hA hB hb0 hr hL hn hdp hww
  go_enter Tryz.func14, Tryz.ntmps14
  go_wp2_with fail
  rw [HWW.out]
  refine (hct _).mono ?_
  rintro e w1 ⟨rfl, hb1⟩
  have hA1 := rb_far HA.out hb1
  have hB1 := rb_far HB.out hb1
  have h3 := heap_alloc_new w1 (.cells #[.int .i64 3, .int .i64 d, .slice none 0 0, .slice none 0 0] 33)
  have hA2 := (Below.heap_alloc w1 (.cells #[.int .i64 3, .int .i64 d, .slice none 0 0, .slice none 0 0] 33) _ (Lib.lt_of_heap hA1)).trans hA1
  have hB2 := (Below.heap_alloc w1 (.cells #[.int .i64 3, .int .i64 d, .slice none 0 0, .slice none 0 0] 33) _ (Lib.lt_of_heap hB1)).trans hB1
  have hbw := (HB0.out.trans (below_far hb1 HB0.out.size)).alloc (Nat.le_trans HB0.out.size hb1.size) (.cells #[.int .i64 3, .int .i64 d, .slice none 0 0, .slice none 0 0] 33)
  have hlt2 := hb1.size
  obtain ⟨a0, a1⟩ := cell_two hA2
  have hdq := HDP.out _ hbw
  have H3 := Lib.hid h3
  have HB2 := Lib.hid hB2
  have HBW := Lib.hid hbw
  clear hb1 hA1 hB1 h3 hA2 hB2 hbw
  go_wp2_with fail
  refine hdq.mono ?_
  rintro e w2 ⟨⟨v', rfl, hrd⟩, hb2⟩
  obtain ⟨ao', cp', hform⟩ := ownsRow_slice hrd.own
  rw [← HN.out] at hform
  subst hform
  have hown := hrd.own
  rw [← HN.out] at hown
  have HO := Lib.hid hown
  have h3 := rb_far H3.out hb2
  have hB3 := rb_far HB2.out hb2
  have HB3 := Lib.hid hB3
  have H33 := Lib.hid h3
  have HBW2 := Lib.hid (HBW.out.trans (below_far hb2 HBW.out.size))
  clear hrd hown h3 hB3 hb2 hdq a0 a1
  go_wp2
  go_loopg [13] n (fun Gm s13 wr => ∃ (i : Nat) (L' : List (Value × List Nat)) (kv : Value), s13 = .int .i64 i ∧ i + Gm = n ∧ L'.length = i ∧ wr.heap[w.heap.size + 1]? = some (.cells #[.int .i64 0, .int .i64 0, .slice none 0 0, .slice none 0 0] 33 (0, 0)) ∧ wr.heap[w1.heap.size]? = some (.cells #[.int .i64 3, .int .i64 d, .slice none 0 0, kv] 33 (0, 0)) ∧
    Kds (w1.heap.size + 1) d wr kv L' ∧ L'.map (·.2) = (L.map (·.2)).take i ∧ wr.ownsRow X 67 2 (.slice ao' n cp') n (rc d L) ∧ Below w.heap.size w wr ∧ w1.heap.size + 1 ≤ wr.heap.size)
  case atStart => exact ⟨0, [], .slice none 0 0, rfl, by omega, rfl, HB3.out, H33.out, Kds.nil _ _ _, rfl, HO.out, HBW2.out, Lib.lt_of_heap H33.out⟩
  case round =>
    obtain ⟨i, L', kv, rfl, hi', hLi, hA, hB, hkd, hmp, hrw, hb, hsz⟩ := hrel
    have HI := Lib.hid hi'
    have HLI := Lib.hid hLi
    have HA := Lib.hid hA
    have HBk := Lib.hid hB
    have HKD := Lib.hid hkd
    have HMP := Lib.hid hmp
    have HB := Lib.hid hb
    have HRW := Lib.hid hrw
    have hLb : L'.length ≤ 100000 := by omega
    clear hi' hA hB hkd hmp hb hLi hrw
    by_cases hlt : i < n
    · have hlt' : (i : Int) < n := by omega
      obtain ⟨p, hp⟩ : ∃ p, L[i]? = some p := ⟨_, List.getElem?_eq_getElem (by have := HN.out; omega)⟩
      obtain ⟨g, cap, hform, hg1, hg2⟩ := HRW.out.form (by omega)
      have hao : ao' = some ⟨g, 0, none⟩ := by injection hform
      subst hao
      obtain ⟨r0, r1⟩ := rc_at d L i p hp
      have d0 := (HRW.out.cellAt (i * 2) (by omega)).trans r0
      have d1 := (HRW.out.cellAt (i * 2 + 1) (by omega)).trans r1
      have hpm := List.mem_of_getElem? hp
      have hpe := (HR.out.far HB.out).each p hpm
      obtain ⟨pa, pc, hps⟩ := ownsRow_slice hpe
      rw [hps] at d1 hpe
      obtain ⟨hm1, hm2⟩ := HL.out p hpm
      have hmq : (L'.map (·.2)) ++ [p.2] = (L.map (·.2)).take (i + 1) := by
        rw [HMP.out, List.take_add_one, List.getElem?_map, hp]
        rfl
      generalize hxs : p.2 = xs at *
      generalize hm : xs.length = m at *
      have HM := Lib.hid hm
      have hcall : ∀ W, Below (wr.alloc (.cells #[.int .u8 d, .slice pa m pc] 67)).heap.size (wr.alloc (.cells #[.int .u8 d, .slice pa m pc] 67)) W →
          Calls Tryz.prog 26 #[.agg #[.int .u8 d, .slice pa m pc]] W fun e w' => ∃ (ao' : Option Addr) (cv : Nat), e = .returned (.agg #[.int .i64 2, .int .i64 d, .slice ao' m cv, .slice none 0 0]) ∧ w'.ownsRow (w1.heap.size + 1) 79 1 (.slice ao' m cv) m (fl xs) ∧
            w'.heap[w.heap.size + 1]? = some (.cells #[.int .i64 0, .int .i64 0, .slice none 0 0, .slice none 0 0] 33 (0, 0)) ∧ w'.heap[w1.heap.size]? = some (.cells #[.int .i64 3, .int .i64 d, .slice none 0 0, kv] 33 (0, 0)) ∧
            Kds (w1.heap.size + 1) d w' kv L' ∧ Below w.heap.size w w' ∧ w1.heap.size + 1 ≤ w'.heap.size ∧ w'.ownsRow X 67 2 (.slice (some ⟨g, 0, none⟩) n cp') n (rc d L) := by
        intro W hb
        have hbr : Below wr.heap.size wr W := ((Below.refl _ _).alloc (Nat.le_refl _) _).trans (below_far hb (by simp))
        have hl := line_any X W d hd pa m pc xs (by rw [hm]; exact hm1) hm.symm (ownsRow_far hpe hbr) (by omega)
        refine hl.mono ?_
        rintro e w' ⟨⟨v, rfl, k1⟩, hb2⟩
        obtain ⟨ao', cv, rfl⟩ := ownsRow_slice k1
        have hbr2 : Below wr.heap.size wr w' := hbr.trans (below_far hb2 hbr.size)
        exact ⟨ao', cv, rfl, ownsRow_mono k1 (Nat.le_trans hsz hbr.size), (hbr2.block _ (Lib.lt_of_heap HA.out)).trans HA.out, (hbr2.block _ (Lib.lt_of_heap HBk.out)).trans HBk.out,
          HKD.out.far hbr2, HB.out.trans (below_far hbr2 HB.out.size), Nat.le_trans hsz hbr2.size, ownsRow_far HRW.out hbr2⟩
      have HCALL := Lib.hid hcall
      have hc0 := fun o => (cell_four ((Below.heap_alloc wr o _ (Lib.lt_of_heap HBk.out)).trans HBk.out)).2.2.2
      have hzf := fun o => Lib.frozen_of_heap ((Below.heap_alloc wr o _ (Lib.lt_of_heap HBk.out)).trans HBk.out) 3
      have hnw := heap_alloc_new wr (.cells #[.int .u8 d, .slice pa m pc] 67)
      obtain ⟨n0, n1⟩ := cell_two hnw
      have HMQ := Lib.hid hmq
      clear hcall hp hpm hpe hps hm1 hm2 hmq hxs hm hform hnw r0 r1
      go_upto_block 1 with fail
      go_cut [] (fun wx => ∃ (L2 : List (Value × List Nat)) (kv' : Value), L2.length = i + 1 ∧ wx.heap[w.heap.size + 1]? = some (.cells #[.int .i64 0, .int .i64 0, .slice none 0 0, .slice none 0 0] 33 (0, 0)) ∧ wx.heap[w1.heap.size]? = some (.cells #[.int .i64 3, .int .i64 d, .slice none 0 0, kv'] 33 (0, 0)) ∧
        Kds (w1.heap.size + 1) d wx kv' L2 ∧ L2.map (·.2) = (L.map (·.2)).take (i + 1) ∧ wx.ownsRow X 67 2 (.slice (some ⟨g, 0, none⟩) n cp') n (rc d L) ∧ Below w.heap.size w wx ∧ w1.heap.size + 1 ≤ wx.heap.size)
      case first =>
        go_upto_region 5 with fail
        have hH6 : ∀ w5 w6 : World, ∀ o, w5.heap[w.heap.size + 1]? = some (.cells #[.int .i64 0, .int .i64 0, .slice none 0 0, .slice none 0 0] 33 (0, 0)) → w5.heap[w1.heap.size]? = some (.cells #[.int .i64 3, .int .i64 d, .slice none 0 0, kv] 33 (0, 0)) →
            Kds (w1.heap.size + 1) d w5 kv L' → (w5.alloc o).grownBy w6 kv.ownBlock → w6.heap[w.heap.size + 1]? = some (.cells #[.int .i64 0, .int .i64 0, .slice none 0 0, .slice none 0 0] 33 (0, 0)) ∧ w6.heap[w1.heap.size]? = some (.cells #[.int .i64 3, .int .i64 d, .slice none 0 0, kv] 33 (0, 0)) := by
          intro w5 w6 o h5 h6 h7 hg
          refine ⟨app_keep h5 hg (fun e => ?_), app_keep h6 hg (fun e => ?_)⟩
          · have := (h7.own.lt _ e.symm).1
            omega
          · have := (h7.own.lt _ e.symm).1
            omega
        have HH6 := Lib.hid hH6
        clear hH6
        go_region_law
          (first | ((go_simp; go_at_call 26; refine (HCALL.out (wr.alloc (.cells #[.int .u8 d, .slice pa m pc] 67)).drew ⟨rfl, rfl, rfl, Nat.le_refl _, fun _ _ => rfl⟩).mono ?_; rintro e w5 ⟨ao', cv, rfl, k1, k5, k6, k7, k8, k9, k10⟩; have hk5 := (cell_four k6).2.2.2; have hz5 := Lib.frozen_of_heap k6 3; have hk5a := fun o => (cell_four ((Below.heap_alloc w5 o _ (Lib.lt_of_heap k6)).trans k6)).2.2.2; have hz5a := fun o => Lib.frozen_of_heap ((Below.heap_alloc w5 o _ (Lib.lt_of_heap k6)).trans k6) 3)) | ((refine step_append_lies _ (by rfl) (.tmp 18) (.tmp 21) 31 (by rfl) (w1.heap.size + 1) 33 i0 (.agg #[.int .i64 0, .int .i64 0, .slice none 0 0, .slice none 0 0]) 4 64 Tryz.underlying31 hi hz0 hz1 hz2 rfl (by decide) kv L'.length (kc d L') (by rfl) (k7.own.alloc _) ⟨w5.heap.size, 0, none⟩ 1 1 [.int .i64 2, .int .i64 d, .slice ao' m cv, .slice none 0 0] (by rfl) rfl (World.news_of_block (heap_alloc_new w5 _)) (by intro u hu; simp at hu; rcases hu with rfl | rfl | rfl | rfl <;> rfl) (by decide) (by unfold maxLen; omega) (by omega) (by simp; omega) _ rfl ?_; intro g6 cap6 w6 hown6 hgrow hat hlt; have hH := HH6.out _ _ _ k5 k6 k7 hgrow; have hk6 := (cell_four hH.2).2.2.2; have hz6 := Lib.frozen_of_heap hH.2 3)) | fail)
        all_goals
          go_wp2
          go_meet
          have hB6 := Lib.heap_setCell_same (i := 3) hH.2 (.slice (some ⟨g6, 0, none⟩) (L'.length + 1) cap6)
          have hA6 := (Below.heap_setCell w6 ⟨w1.heap.size, 3, none⟩ (.slice (some ⟨g6, 0, none⟩) (L'.length + 1) cap6) (w.heap.size + 1) (by show w.heap.size + 1 ≠ w1.heap.size; omega)).trans hH.1
          have hb56 : Below (w1.heap.size + 1) w5 w6 := ((Below.refl (w1.heap.size + 1) w5).alloc k9 _).grown hgrow (by simp; omega) (fun k e => (k7.own.lt k e).1)
          refine ⟨L' ++ [(.slice ao' m cv, xs)], _, by have := HLI.out; simp; omega, hA6, hB6, (k7.snoc (by rw [HM.out]; exact k1) hgrow hown6).setB (by omega) _, by rw [List.map_append]; exact HMQ.out,
            ownsRow_set (ownsRow_grown k10 (ownsRow_mono k7.own (by omega)) (by decide) hgrow) hH.2 (by decide),
            (k8.trans ⟨hb56.os, hb56.tape, hb56.output, hb56.size, fun k hk => hb56.block k (by omega)⟩).setCell (p := ⟨w1.heap.size, 3, none⟩) (by show w.heap.size ≤ w1.heap.size; omega) _, ?_⟩
          have := hb56.size
          simp [World.setCell]
          omega
      case rest =>
        obtain ⟨L2, kv', h1, h2, h3, h4, h5, h6, h7, h8⟩ := hcut
        have K1 := Lib.hid h1
        have K2 := Lib.hid h2
        have K3 := Lib.hid h3
        have K4 := Lib.hid h4
        have K5 := Lib.hid h5
        have K6 := Lib.hid h6
        have K7 := Lib.hid h7
        clear h1 h2 h3 h4 h5 h6 h7 hc0 hzf n0 n1 d0 d1
        go_wp2
        go_roundg (gk - 1)
        case measure => have := HI.out; omega
        case rel => exact ⟨i + 1, L2, kv', by go_num, by have := HI.out; omega, K1.out, K2.out, K3.out, K4.out, K5.out, K6.out, K7.out, h8⟩
    · have hlt' : ¬ (i : Int) < n := by omega
      have hin : i = L.length := by have := HI.out; have := HN.out; omega
      have hmp := HMP.out
      rw [hin, List.take_of_length_le (by simp)] at hmp
      have HMP2 := Lib.hid hmp
      obtain ⟨ak, ck, hkv⟩ := ownsRow_slice HKD.out.own
      generalize hll : L'.length = ll at hkv
      subst hkv
      obtain ⟨b0, b1, b2, b3⟩ := cell_four HA.out
      obtain ⟨c0, c1, c2, c3⟩ := cell_four HBk.out
      have z1 := Lib.frozen_of_heap HA.out
      have HKD2 := HKD
      have hszz := HB.out.size
      clear hmp hin hll
      go_wp2
      refine bodyPost_ret (res_cell rfl _ _ (w.heap.size + 1) 33 #[_, _, _, _] (0, 0) _ rfl (f4_heap HA.out) Tryz.underlying33 (by kernel_rfl)) rfl ?_
      refine ⟨⟨_, rfl, L', ?_, HMP2.out⟩, HB.out.trans ((Below.refl w.heap.size _).grown f4_grown hszz (fun k e => by injection e with e; omega))⟩
      exact ((((HKD2.out.setB (g := w.heap.size + 1) (by omega) _).setB (by omega) _).setB (by omega) _).setB (by omega) _).mono (by omega)
end Go.Proofs.YthfjakbpeclfcaaGreatDoor
