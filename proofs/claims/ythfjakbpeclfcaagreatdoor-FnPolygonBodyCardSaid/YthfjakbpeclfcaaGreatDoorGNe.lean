/-
  The reference's New of a line string of whole places.
  The reference's New of a polygon.
-/
import Derived.Test.YthfjakbpeclfcaaGreatDoorGFo
namespace Go.Proofs.YthfjakbpeclfcaaGreatDoor
open Go.RowKit Go
attribute [local go_sem ↓] Go.wp_at_zero Go.wp_at_succ

theorem and3i (d : Nat) (hd : d < 4) : bits .and .i64 (d : Int) 3 = d := by
  have : d = 0 ∨ d = 1 ∨ d = 2 ∨ d = 3 := by omega
  rcases this with rfl | rfl | rfl | rfl <;> decide
theorem and3l (d : Nat) (hd : d < 4) : bits .and .i64 3 (d : Int) = d := by
  have : d = 0 ∨ d = 1 ∨ d = 2 ∨ d = 3 := by omega
  rcases this with rfl | rfl | rfl | rfl <;> decide
theorem and_selfi (d : Nat) (hd : d < 4) : bits .and .i64 (d : Int) d = d := by
  have : d = 0 ∨ d = 1 ∨ d = 2 ∨ d = 3 := by omega
  rcases this with rfl | rfl | rfl | rfl <;> decide
theorem own_cap {w : World} {Y e size n g c : Nat} {xs : List Value} (h : w.ownsRow Y e size (.slice (some ⟨g, 0, none⟩) n c) n xs) : n ≤ c := by
  rcases h.2 with ⟨h, -⟩ | ⟨g', cap, cur, hv, -, -, hle, -⟩
  · cases h
  · injection hv with _ _ hv
    omega
set_option maxHeartbeats 8000000 in
set_option maxRecDepth 100000 in
theorem ne_line (X : Nat) (w : World) (d : Nat) (hd : d < 4) (ao : Option Addr) (cp : Nat) (xs : List Nat) (hm : xs.length % dimW d = 0) (hown : w.ownsRow X 79 1 (.slice ao xs.length cp) xs.length (fl xs)) (hlen : xs.length ≤ 500000) (hnil : xs.length = 0 → Value.slice ao xs.length cp = .slice none 0 0) :
    Calls Tryz.prog 18 #[.agg #[.int .i64 2, .int .i64 d, .slice ao xs.length cp, .slice none 0 0]] w fun e w' => (∃ v, e = .returned (.agg #[.int .i64 2, .int .i64 d, v, .slice none 0 0]) ∧ w'.ownsRow w.heap.size 79 1 v xs.length (fl xs)) ∧ Below w.heap.size w w' := by
  obtain ⟨i0, hi, hz0, hz1, hz2⟩ := info_parts inf79
  have hwd := fun w => wid_any d hd w
  simp only [wid_dim] at hwd
  have hDp := dimW_pos d
  have hD4 : dimW d ≤ 4 := by unfold dimW; split; omega; split <;> omega
  obtain ⟨n, hn⟩ : ∃ n, n = xs.length := ⟨_, rfl⟩
  rw [← hn] at hm hown hlen hnil ⊢
  obtain ⟨q, hq⟩ : ∃ q, n = q * dimW d := ⟨n / dimW d, by have := Nat.div_add_mod n (dimW d); rw [hm, Nat.mul_comm] at this; omega⟩
  have hq1 : (n : Int) / (dimW d : Int) = q := by
    rw [hq]
    rw [Int.natCast_mul, Int.mul_ediv_cancel _ (by omega)]
  have hq2 : (q : Int) * (dimW d : Int) = n := by
    rw [hq, Int.natCast_mul]
  have hql : q ≤ 500000 := by
    have : q * 1 ≤ q * dimW d := Nat.mul_le_mul_left _ hDp
    omega
  generalize dimW d = D at *
  have hD0 : ¬ (D : Int) = 0 := by omega
  have had := and3i d hd
  have hlf := leaf2
  have h1 := heap_alloc3_1 w (.cells #[.int .i64 2, .int .i64 d, .slice ao n cp, .slice none 0 0] 33) (.cells #[.int .i64 0, .int .i64 0, .slice none 0 0, .slice none 0 0] 33) (.cells #[.int .i64 2, .int .i64 d, .slice none 0 0, .slice none 0 0] 33)
  have h2 := heap_alloc3_2 w (.cells #[.int .i64 2, .int .i64 d, .slice ao n cp, .slice none 0 0] 33) (.cells #[.int .i64 0, .int .i64 0, .slice none 0 0, .slice none 0 0] 33) (.cells #[.int .i64 2, .int .i64 d, .slice none 0 0, .slice none 0 0] 33)
  have h0 := heap_alloc3_0 w (.cells #[.int .i64 2, .int .i64 d, .slice ao n cp, .slice none 0 0] 33) (.cells #[.int .i64 0, .int .i64 0, .slice none 0 0, .slice none 0 0] 33) (.cells #[.int .i64 2, .int .i64 d, .slice none 0 0, .slice none 0 0] 33)
  have hb0 : Below w.heap.size w (((w.alloc (.cells #[.int .i64 2, .int .i64 d, .slice ao n cp, .slice none 0 0] 33)).alloc (.cells #[.int .i64 0, .int .i64 0, .slice none 0 0, .slice none 0 0] 33)).alloc (.cells #[.int .i64 2, .int .i64 d, .slice none 0 0, .slice none 0 0] 33)) :=
    (((Below.refl _ _).alloc (Nat.le_refl _) _).alloc (by simp) _).alloc (by simp; omega) _
  generalize hW3 : ((w.alloc (.cells #[.int .i64 2, .int .i64 d, .slice ao n cp, .slice none 0 0] 33)).alloc (.cells #[.int .i64 0, .int .i64 0, .slice none 0 0, .slice none 0 0] 33)).alloc (.cells #[.int .i64 2, .int .i64 d, .slice none 0 0, .slice none 0 0] 33) = W3 at *
  have HW3 := Lib.hid hW3
  have H0 := Lib.hid h0
  have H1 := Lib.hid h1
  have H2 := Lib.hid h2
  have HB0 := Lib.hid hb0
  have HN := Lib.hid hn
  have HOW := Lib.hid hown
  have HNIL := Lib.hid hnil
  have HQ := Lib.hid hq
  have hsz3 : w.heap.size + 3 ≤ W3.heap.size := by have := Lib.lt_of_heap h2; omega
  clear hW3 h0 h1 h2 hb0 hn hown hnil hq hm
  go_enter Tryz.func18, Tryz.ntmps18
  go_upto_region 5 with (first | (go_at_call 31; refine (hlf _).mono ?_; rintro e w' ⟨rfl, hw⟩; have hw := hw.symm; subst hw))
  go_cut [4] (fun s4 wx => s4 = .int .i64 q ∧ Below W3.heap.size W3 wx)
  case first =>
    go_quiet ((go_at_call 32; refine Calls.quiet_of_same (hwd _)))
    go_wp2
    go_meet
    exact ⟨rfl, by rw [← HW3.out]; exact ⟨rfl, rfl, rfl, Nat.le_refl _, fun _ _ => rfl⟩⟩
  case rest =>
    obtain ⟨rfl, hbx⟩ := hcut
    have g0 := (hbx.block _ (Lib.lt_of_heap H0.out)).trans H0.out
    have g1 := (hbx.block _ (Lib.lt_of_heap H1.out)).trans H1.out
    have g2 := (hbx.block _ (Lib.lt_of_heap H2.out)).trans H2.out
    have hbw := HB0.out.trans (below_far hbx HB0.out.size)
    have hsc : w.heap.size + 3 ≤ wc.heap.size := Nat.le_trans hsz3 hbx.size
    obtain ⟨a0, a1, a2, a3⟩ := cell_four g0
    obtain ⟨c0, c1, c2, c3⟩ := cell_four g2
    have z2 := Lib.frozen_of_heap g2
    have G1 := Lib.hid g1
    have G2 := Lib.hid g2
    have HBW := Lib.hid hbw
    have HOC := Lib.hid (ownsRow_far HOW.out hbw)
    clear g0 g1 g2 hbx hbw
    go_upto_region 8 with fail
    go_cut [] (fun wx => ∃ ao' c', wx.heap[w.heap.size + 1]? = some (.cells #[.int .i64 0, .int .i64 0, .slice none 0 0, .slice none 0 0] 33 (0, 0)) ∧ wx.heap[w.heap.size + 1 + 1]? = some (.cells #[.int .i64 2, .int .i64 d, .slice ao' n c', .slice none 0 0] 33 (0, 0)) ∧
      wx.ownsRow w.heap.size 79 1 (.slice ao' n c') n (fl xs) ∧ Below w.heap.size w wx)
    case first =>
      by_cases hn0 : n = 0
      · have hnl := HNIL.out hn0
        injection hnl with hao _ hcp
        subst hao hcp
        have hq0 : q = 0 := by
          have := HQ.out
          rw [hn0] at this
          rcases Nat.mul_eq_zero.1 this.symm with h | h
          · exact h
          · omega
        subst hn0 hq0
        have hwq : IntKind.i64.wrap (0 : Int) = 0 := by decide
        go_region_law
          (first | ((go_simp; go_at_call 32; refine (hwd _).mono ?_; rintro e w' ⟨rfl, hw'⟩; have hw' := hw'.symm; subst hw')) | fail)
        all_goals
          go_wp2
          go_meet
          have hB6 := Lib.heap_setCell_same (i := 2) G2.out (.slice none 0 0)
          have hA6 := (Below.heap_setCell wc ⟨w.heap.size + 1 + 1, 2, none⟩ (.slice none 0 0) (w.heap.size + 1) (by show w.heap.size + 1 ≠ w.heap.size + 1 + 1; omega)).trans G1.out
          refine ⟨none, 0, hA6, hB6, ?_, (HBW.out.setCell (p := ⟨w.heap.size + 1 + 1, 2, none⟩) (by show w.heap.size ≤ w.heap.size + 1 + 1; omega) _).trans ⟨rfl, rfl, rfl, Nat.le_refl _, fun _ _ => rfl⟩⟩
          rw [List.length_eq_zero_iff.1 HN.out.symm]
          exact World.ownsRow_nil _ _ _ _
      · obtain ⟨g, cap, hform, hg1, hg2⟩ := HOC.out.form (by omega)
        injection hform with hf1 hf2 hf3
        subst hf1 hf3
        have hcap := own_cap HOC.out
        have hcap' : (n : Int) ≤ (cp : Int) := by omega
        have hwq : IntKind.i64.wrap (n : Int) = n := wrap_small _ (by omega) (by omega)
        have hnn : (0 : Int) ≤ n := by omega
        have HFR := Lib.hid (show ∀ w6 : World, wc.drew.grownBy w6 none → w6.heap[w.heap.size + 1]? = some (.cells #[.int .i64 0, .int .i64 0, .slice none 0 0, .slice none 0 0] 33 (0, 0)) ∧ w6.heap[w.heap.size + 1 + 1]? = some (.cells #[.int .i64 2, .int .i64 d, .slice none 0 0, .slice none 0 0] 33 (0, 0)) from
          fun w6 hg => ⟨(hg.block _ (Lib.lt_of_heap G1.out) (by simp)).trans G1.out, (hg.block _ (Lib.lt_of_heap G2.out) (by simp)).trans G2.out⟩)
        go_region_law
          (first | ((go_simp; go_at_call 32; refine (hwd _).mono ?_; rintro e w' ⟨rfl, hw'⟩; have hw' := hw'.symm; subst hw')) | ((refine step_append_lies _ (by rfl) (.tmp 40) (.tmp 48) 30 (by rfl) w.heap.size 79 i0 (.float .f64 0) 1 8 Tryz.underlying30 hi hz0 hz1 hz2 rfl (by decide) (.slice none 0 0) 0 [] (by rfl) (World.ownsRow_nil _ _ _ _) ⟨g, 0, none⟩ n cp (fl xs) (by rfl) (by rw [fl_len, HN.out]; omega) (own_news (ownsRow_far HOC.out (w' := wc.drew) ⟨rfl, rfl, rfl, Nat.le_refl _, fun _ _ => rfl⟩)) (fl_one xs) (by omega) (by unfold maxLen; omega) (by omega) (by show w.heap.size ≤ wc.heap.size; omega) _ rfl ?_; intro g6 cap6 w6 hown6 hgrow hat hlt; have hH := HFR.out w6 hgrow; have hk6 := (cell_four hH.2).2.2.1; have hz6 := Lib.frozen_of_heap hH.2 2)) | fail)
        all_goals
          go_wp2
          go_meet
          have hB6 := Lib.heap_setCell_same (i := 2) hH.2 (.slice (some ⟨g6, 0, none⟩) n cap6)
          have hA6 := (Below.heap_setCell w6 ⟨w.heap.size + 1 + 1, 2, none⟩ (.slice (some ⟨g6, 0, none⟩) n cap6) (w.heap.size + 1) (by show w.heap.size + 1 ≠ w.heap.size + 1 + 1; omega)).trans hH.1
          have hb6 : Below w.heap.size w w6 := (HBW.out.trans ⟨rfl, rfl, rfl, Nat.le_refl _, fun _ _ => rfl⟩ : Below w.heap.size w wc.drew).grown hgrow (by show w.heap.size ≤ wc.heap.size; omega) (fun k e => by cases e)
          rw [Nat.zero_add, List.nil_append] at hown6
          exact ⟨_, cap6, hA6, hB6, ownsRow_set hown6 hH.2 (by decide), hb6.setCell (p := ⟨w.heap.size + 1 + 1, 2, none⟩) (by show w.heap.size ≤ w.heap.size + 1 + 1; omega) _⟩
    case rest =>
      obtain ⟨ao', c', h1, h2, h3, h4⟩ := hcut
      obtain ⟨b0, b1, b2, b3⟩ := cell_four h1
      obtain ⟨e0, e1, e2, e3⟩ := cell_four h2
      have z1 := Lib.frozen_of_heap h1
      have K1 := Lib.hid h1
      have K3 := Lib.hid h3
      have K4 := Lib.hid h4
      clear h1 h2 h3 h4 a0 a1 a2 a3 c0 c1 c2 c3 z2
      go_wp2
      refine bodyPost_ret (res_cell rfl _ _ (w.heap.size + 1) 33 #[_, _, _, _] (0, 0) _ rfl (f4_heap K1.out) Tryz.underlying33 (by kernel_rfl)) rfl ?_
      exact ⟨⟨_, rfl, f4_own K1.out K3.out (by decide)⟩, K4.out.trans ((Below.refl w.heap.size _).grown f4_grown K4.out.size (fun k e => by injection e with e; omega))⟩
end Go.Proofs.YthfjakbpeclfcaaGreatDoor

namespace Go.Proofs.YthfjakbpeclfcaaGreatDoor
open Go.RowKit Go

set_option maxHeartbeats 8000000 in
set_option maxRecDepth 100000 in
theorem ne_poly (X : Nat) (w : World) (d : Nat) (hd : d < 4) (ao : Option Addr) (n cp : Nat) (L : List (Value × List Nat)) (hn : n = L.length) (hk : Kds X d w (.slice ao n cp) L) (hL : ∀ p, p ∈ L → p.2.length % dimW d = 0 ∧ p.2.length ≤ 500000 ∧ (p.2.length = 0 → p.1 = .slice none 0 0)) (hl : L.length ≤ 500000) :
    Calls Tryz.prog 18 #[.agg #[.int .i64 3, .int .i64 d, .slice none 0 0, .slice ao n cp]] w fun e w' => (∃ ao' c' v L', e = .returned (.agg #[.int .i64 3, .int .i64 d, .slice ao' 0 c', v]) ∧ Kds w.heap.size d w' v L' ∧ L'.map (·.2) = L.map (·.2)) ∧ Below w.heap.size w w' := by
  obtain ⟨i0, hi, hz0, hz1, hz2⟩ := info_parts inf33
  have had := and3i d hd
  have ha3 := and3l d hd
  have has := and_selfi d hd
  have hlf := leaf3
  have hkd := kid3
  have h1 := heap_alloc3_1 w (.cells #[.int .i64 3, .int .i64 d, .slice none 0 0, .slice ao n cp] 33) (.cells #[.int .i64 0, .int .i64 0, .slice none 0 0, .slice none 0 0] 33) (.cells #[.int .i64 3, .int .i64 d, .slice none 0 0, .slice none 0 0] 33)
  have h2 := heap_alloc3_2 w (.cells #[.int .i64 3, .int .i64 d, .slice none 0 0, .slice ao n cp] 33) (.cells #[.int .i64 0, .int .i64 0, .slice none 0 0, .slice none 0 0] 33) (.cells #[.int .i64 3, .int .i64 d, .slice none 0 0, .slice none 0 0] 33)
  have h0 := heap_alloc3_0 w (.cells #[.int .i64 3, .int .i64 d, .slice none 0 0, .slice ao n cp] 33) (.cells #[.int .i64 0, .int .i64 0, .slice none 0 0, .slice none 0 0] 33) (.cells #[.int .i64 3, .int .i64 d, .slice none 0 0, .slice none 0 0] 33)
  have hb0 : Below w.heap.size w (((w.alloc (.cells #[.int .i64 3, .int .i64 d, .slice none 0 0, .slice ao n cp] 33)).alloc (.cells #[.int .i64 0, .int .i64 0, .slice none 0 0, .slice none 0 0] 33)).alloc (.cells #[.int .i64 3, .int .i64 d, .slice none 0 0, .slice none 0 0] 33)) :=
    (((Below.refl _ _).alloc (Nat.le_refl _) _).alloc (by simp) _).alloc (by simp; omega) _
  have hs3 : w.heap.size + 3 ≤ (((w.alloc (.cells #[.int .i64 3, .int .i64 d, .slice none 0 0, .slice ao n cp] 33)).alloc (.cells #[.int .i64 0, .int .i64 0, .slice none 0 0, .slice none 0 0] 33)).alloc (.cells #[.int .i64 3, .int .i64 d, .slice none 0 0, .slice none 0 0] 33)).heap.size := by simp
  have HS3 := Lib.hid hs3
  have H0 := Lib.hid h0
  have H1 := Lib.hid h1
  have H2 := Lib.hid h2
  have HB0 := Lib.hid hb0
  have HK := Lib.hid hk
  have HL := Lib.hid hL
  have HN := Lib.hid hn
  have hnl : n ≤ 500000 := by omega
  clear hk hL hn h0 h1 h2 hb0 hs3
  go_enter Tryz.func18, Tryz.ntmps18
  go_wp2_with (first | (go_at_call 31; refine (hlf _).mono ?_; rintro e w' ⟨rfl, hw⟩; have hw := hw.symm; subst hw))
  go_loopg [5, 55] n (fun Gm s5 s55 wr => ∃ (i : Nat) (L' : List (Value × List Nat)) (kv : Value) (dm : Int), s55 = .int .i64 i ∧ s5 = .int .i64 dm ∧ bits .and .i64 dm d = d ∧ (0 < i → dm = d) ∧ i + Gm = n ∧ L'.length = i ∧ wr.heap[w.heap.size + 1]? = some (.cells #[.int .i64 0, .int .i64 0, .slice none 0 0, .slice none 0 0] 33 (0, 0)) ∧ wr.heap[w.heap.size + 1 + 1]? = some (.cells #[.int .i64 3, .int .i64 d, .slice none 0 0, kv] 33 (0, 0)) ∧
    Kds (w.heap.size + 3) d wr kv L' ∧ L'.map (·.2) = (L.map (·.2)).take i ∧ Below w.heap.size w wr ∧ w.heap.size + 3 ≤ wr.heap.size)
  case atStart => exact ⟨0, [], .slice none 0 0, 3, rfl, rfl, ha3, fun h => absurd h (Nat.lt_irrefl 0), by omega, rfl, H1.out, H2.out, Kds.nil _ _ _, rfl, HB0.out, HS3.out⟩
  case round =>
    obtain ⟨i, L', kv, dm, rfl, rfl, hdm, hdm2, hi', hLi, hA, hB, hkd', hmp, hb, hsz⟩ := hrel
    have HI := Lib.hid hi'
    have HLI := Lib.hid hLi
    have HA := Lib.hid hA
    have HBk := Lib.hid hB
    have HKD := Lib.hid hkd'
    have HMP := Lib.hid hmp
    have HB := Lib.hid hb
    have HDM := Lib.hid hdm2
    have hLb : L'.length ≤ 500000 := by omega
    clear hi' hA hB hkd' hmp hb hLi hdm2
    by_cases hlt : i < n
    · have hlt' : (i : Int) < n := by omega
      obtain ⟨p, hp⟩ : ∃ p, L[i]? = some p := ⟨_, List.getElem?_eq_getElem (by have := HN.out; omega)⟩
      have hkw := HK.out.far (w' := wr) HB.out
      obtain ⟨g, cap, hform, hg1, hg2⟩ := hkw.own.form (by have := HN.out; omega)
      have hao : ao = some ⟨g, 0, none⟩ := by injection hform
      subst hao
      obtain ⟨d0, d1, d2, d3⟩ := hkw.at HN.out i p hp
      have hpm := List.mem_of_getElem? hp
      have hpe := hkw.each p hpm
      obtain ⟨pa, pc, hps⟩ := ownsRow_slice hpe
      obtain ⟨hm1, hm2, hm3⟩ := HL.out p hpm
      rw [hps] at d2 hpe hm3
      have hmq : (L'.map (·.2)) ++ [p.2] = (L.map (·.2)).take (i + 1) := by
        rw [HMP.out, List.take_add_one, List.getElem?_map, hp]
        rfl
      generalize hxs : p.2 = xs at *
      have hcl := fun (W : World) (hb : Below wr.heap.size wr W) => ne_line X W d hd pa pc xs hm1 (ownsRow_far hpe hb) hm2 hm3
      generalize hm : xs.length = m at *
      have HM := Lib.hid hm
      have HMQ := Lib.hid hmq
      have hnew := heap_alloc_new wr (.cells #[.int .i64 2, .int .i64 d, .slice pa m pc, .slice none 0 0] 33)
      have hbA : Below wr.heap.size wr (wr.alloc (.cells #[.int .i64 2, .int .i64 d, .slice pa m pc, .slice none 0 0] 33)) := (Below.refl _ _).alloc (Nat.le_refl _) _
      have hcall := hcl _ hbA
      have HBA := Lib.hid hbA
      clear hp hkw hpm hpe hps hm1 hm2 hm3 hmq hxs hm hform hcl hbA hnew
      go_wp2_with fail
      refine hcall.mono ?_
      rintro e w5 ⟨⟨v, rfl, k1⟩, hb5⟩
      obtain ⟨ao2, cv, rfl⟩ := ownsRow_slice k1
      have hbr := HBA.out.trans (below_far hb5 HBA.out.size)
      have k1' := ownsRow_mono k1 (Nat.le_trans hsz HBA.out.size)
      have KA := Lib.hid ((hbr.block _ (Lib.lt_of_heap HA.out)).trans HA.out)
      have KB := Lib.hid ((hbr.block _ (Lib.lt_of_heap HBk.out)).trans HBk.out)
      have KK := Lib.hid (HKD.out.far hbr)
      have K1 := Lib.hid k1'
      have KW := Lib.hid (HB.out.trans (below_far hbr HB.out.size))
      have hs5 : w.heap.size + 3 ≤ w5.heap.size := Nat.le_trans hsz hbr.size
      have hn8 := heap_alloc_new w5 (.cells #[.int .i64 2, .int .i64 d, .slice ao2 m cv, .slice none 0 0] 33)
      obtain ⟨n0, n1, n2, n3⟩ := cell_four hn8
      obtain ⟨o0, o1, o2, o3⟩ := cell_four ((Below.heap_alloc w5 (.cells #[.int .i64 2, .int .i64 d, .slice ao2 m cv, .slice none 0 0] 33) _ (Lib.lt_of_heap KB.out)).trans KB.out)
      have HN8 := Lib.hid hn8
      clear hcall k1 k1' hb5 hbr hn8 d0 d1 d2 d3
      go_upto_region 15 with fail
      go_cut [72] (fun s72 wx => s72 = .bool true ∧ Below (w5.heap.size + 1) (w5.alloc (.cells #[.int .i64 2, .int .i64 d, .slice ao2 m cv, .slice none 0 0] 33)) wx)
      case first =>
        go_quiet ((go_at_call 33; refine Calls.quiet_of_same (hkd _)))
        go_wp2
        go_meet
        exact ⟨rfl, rfl, rfl, rfl, Nat.le_refl _, fun _ _ => rfl⟩
      case rest =>
        obtain ⟨rfl, hbx⟩ := hcut
        have hb5c : Below w5.heap.size w5 wc := ((Below.refl _ _).alloc (Nat.le_refl _) _).trans ⟨hbx.os, hbx.tape, hbx.output, hbx.size, fun k hk => hbx.block k (by omega)⟩
        have h8 := (hbx.block w5.heap.size (Nat.lt_succ_self _)).trans HN8.out
        have KAC := Lib.hid ((hb5c.block _ (Lib.lt_of_heap KA.out)).trans KA.out)
        have hKB := (hb5c.block _ (Lib.lt_of_heap KB.out)).trans KB.out
        have KBC := Lib.hid hKB
        have KKC := Lib.hid (KK.out.far hb5c)
        have K1C := Lib.hid (ownsRow_far K1.out hb5c)
        have KWC := Lib.hid (KW.out.trans (below_far hb5c KW.out.size))
        have hs5c : w.heap.size + 3 ≤ wc.heap.size := Nat.le_trans hs5 hb5c.size
        have h8l := Lib.lt_of_heap h8
        have H8 := Lib.hid h8
        clear n0 n1 n2 n3 o0 o1 o2 o3
        obtain ⟨n0, n1, n2, n3⟩ := cell_four h8
        obtain ⟨o0, o1, o2, o3⟩ := cell_four hKB
        have HKL := Lib.hid (fun (j : Nat) (e : Value.ownBlock kv = some j) => (KK.out.own.lt j e))
        clear hbx hb5c h8 hKB
        go_wp2_with (at_builtin; refine wpList_append_own _ rfl _ _ 31 rfl (w.heap.size + 3) 33 i0 (.agg #[.int .i64 0, .int .i64 0, .slice none 0 0, .slice none 0 0]) 4 64 Tryz.underlying31 hi hz0 hz1 hz2 rfl (by decide) _ _ _ rfl (KKC.out.own.alloc _) ⟨wc.heap.size, 0, none⟩ 1 1 [.int .i64 2, .int .i64 d, .slice ao2 m cv, .slice none 0 0] rfl rfl ?c1 ?c2 ?c3 ?c4 ?c5 ?_)
        first
          | (case c1 => exact World.news_of_block (heap_alloc_new _ _))
          | skip
        first | (case c2 => first | (intro u hu; simp at hu; rcases hu with rfl | rfl | rfl | rfl <;> rfl) | (refine ⟨?_, ?_, ?_, ?_⟩ <;> rfl)) | skip
        first | (case c3 => unfold maxLen; omega) | skip
        first | (case c4 => omega) | skip
        first | (case c5 => first | omega | (simp; omega)) | skip
        intro v' w6 hown6 hgrow _
        have hlA := Lib.lt_of_heap KAC.out
        have hlB := Lib.lt_of_heap KBC.out
        have hA6 := (hgrow.block (w.heap.size + 1) (by simp; omega) (fun e => by have := (HKL.out _ e.symm).1; omega)).trans ((Below.heap_alloc wc _ _ hlA).trans KAC.out)
        have hB6 := (hgrow.block (w.heap.size + 1 + 1) (by simp; omega) (fun e => by have := (HKL.out _ e.symm).1; omega)).trans ((Below.heap_alloc wc _ _ hlB).trans KBC.out)
        have h86 := (hgrow.block w5.heap.size (by simp; omega) (fun e => by have := (HKL.out _ e.symm).2; omega)).trans ((Below.heap_alloc wc _ _ h8l).trans H8.out)
        obtain ⟨g6, cap6, hv6, -, -⟩ := hown6.form (by omega)
        subst hv6
        obtain ⟨q0, q1, q2, q3⟩ := cell_four hB6
        obtain ⟨s0, s1, s2, s3⟩ := cell_four h86
        have z6 := Lib.frozen_of_heap hB6
        have HA6 := Lib.hid hA6
        have HB6 := Lib.hid hB6
        have hkd6 : Kds (w.heap.size + 3) d w6 (.slice (some ⟨g6, 0, none⟩) (L'.length + 1) cap6) (L' ++ [(.slice ao2 m cv, xs)]) := KKC.out.snoc (by rw [HM.out]; exact K1C.out) hgrow hown6
        have HKD6 := Lib.hid hkd6
        have hb6 : Below (w.heap.size + 3) wc w6 := ((Below.refl _ _).alloc hs5c _).grown hgrow (by simp; omega) (fun k e => (HKL.out k e).1)
        have HBW6 := Lib.hid (KWC.out.trans ⟨hb6.os, hb6.tape, hb6.output, hb6.size, fun k hk => hb6.block k (by omega)⟩)
        have hs6 : w.heap.size + 3 ≤ w6.heap.size := Nat.le_trans hs5c hb6.size
        clear hown6 hgrow hA6 hB6 h86 hkd6 hb6 n0 n1 n2 n3 o0 o1 o2 o3
        go_wp2
        go_roundg (gk - 1)
        case measure => have := HI.out; omega
        case rel =>
          refine ⟨i + 1, L' ++ [(.slice ao2 m cv, xs)], .slice (some ⟨g6, 0, none⟩) (L'.length + 1) cap6, d, by go_num, rfl, has, fun _ => rfl, by have := HI.out; omega, by have := HLI.out; simp; omega,
            (Below.heap_setCell w6 ⟨w.heap.size + 1 + 1, 3, none⟩ _ (w.heap.size + 1) (by show w.heap.size + 1 ≠ w.heap.size + 1 + 1; omega)).trans HA6.out, Lib.heap_setCell_same (i := 3) HB6.out _, HKD6.out.setB (by omega) _, by rw [List.map_append]; exact HMQ.out,
            HBW6.out.setCell (p := ⟨w.heap.size + 1 + 1, 3, none⟩) (by show w.heap.size ≤ w.heap.size + 1 + 1; omega) _, by simp [World.setCell]; omega⟩
    · have hlt' : ¬ (i : Int) < n := by omega
      have hin : i = L.length := by have := HI.out; have := HN.out; omega
      have hmp := HMP.out
      rw [hin, List.take_of_length_le (by simp)] at hmp
      have HMP2 := Lib.hid hmp
      obtain ⟨ak, ck, hkv⟩ := ownsRow_slice HKD.out.own
      generalize hll : L'.length = ll at hkv
      subst hkv
      have HLL := Lib.hid hll
      have hszz := HB.out.size
      have HIN := Lib.hid hin
      obtain ⟨b0, b1, b2, b3⟩ := cell_four HA.out
      obtain ⟨c0, c1, c2, c3⟩ := cell_four HBk.out
      have z1 := Lib.frozen_of_heap HA.out
      by_cases hl0 : ll = 0
      · have hl0' : ((ll : Int) == 0) = true := by simp; omega
        have HL0 := Lib.hid hl0
        clear hmp hin hll hl0
        go_wp2
        refine bodyPost_ret (res_cell rfl _ _ (w.heap.size + 1) 33 #[_, _, _, _] (0, 0) _ rfl (f4_heap HA.out) Tryz.underlying33 (by kernel_rfl)) rfl ?_
        refine ⟨⟨none, 0, _, rfl, L', ?_, HMP2.out⟩, HB.out.trans ((Below.refl w.heap.size _).grown f4_grown hszz (fun k e => by injection e with e; omega))⟩
        exact ((((HKD.out.setB (g := w.heap.size + 1) (by omega) _).setB (by omega) _).setB (by omega) _).setB (by omega) _).mono (by omega)
      · have hl0' : ((ll : Int) == 0) = false := by simp; omega
        have hdd : dm = d := HDM.out (by have := HLI.out; omega)
        subst hdd
        have hfo := fo_poly (w.heap.size + 3) wr d hd ak ll ck L' hll.symm HKD.out (by
          intro p hp
          have hp2 : p.2 ∈ L'.map (·.2) := List.mem_map.2 ⟨p, hp, rfl⟩
          rw [HMP2.out] at hp2
          obtain ⟨p', hp', e⟩ := List.mem_map.1 hp2
          have := HL.out p' hp'
          rw [e] at this
          exact ⟨this.1, this.2.1⟩) hLb
        clear hmp hin hll hl0
        go_wp2_with fail
        refine hfo.mono ?_
        rintro e w7 ⟨⟨ao', c', v, L2, rfl, hk2, hm2⟩, hb7⟩
        have hA7 := (hb7.block _ (Lib.lt_of_heap HA.out)).trans HA.out
        obtain ⟨av, cv2, hv⟩ := ownsRow_slice hk2.own
        generalize L2.length = l2 at hv
        subst hv
        clear b0 b1 b2 b3 c0 c1 c2 c3 z1
        obtain ⟨b0, b1, b2, b3⟩ := cell_four hA7
        have z1 := Lib.frozen_of_heap hA7
        have HA7 := Lib.hid hA7
        have HK2 := Lib.hid hk2
        have HM2 := Lib.hid hm2
        have HB7 := Lib.hid (HB.out.trans (below_far hb7 HB.out.size))
        clear hA7 hk2 hm2 hb7 hfo
        go_wp2
        refine bodyPost_ret (res_cell rfl _ _ (w.heap.size + 1) 33 #[_, _, _, _] (0, 0) _ rfl (f4_heap HA7.out) Tryz.underlying33 (by kernel_rfl)) rfl ?_
        refine ⟨⟨ao', c', _, L2, rfl, ?_, HM2.out.trans HMP2.out⟩, HB7.out.trans ((Below.refl w.heap.size _).grown f4_grown HB7.out.size (fun k e => by injection e with e; omega))⟩
        exact ((((HK2.out.setB (g := w.heap.size + 1) (by omega) _).setB (by omega) _).setB (by omega) _).setB (by omega) _).mono (by omega)
end Go.Proofs.YthfjakbpeclfcaaGreatDoor
