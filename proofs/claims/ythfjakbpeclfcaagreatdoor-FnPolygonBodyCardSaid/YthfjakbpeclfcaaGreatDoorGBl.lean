/-
  The reference's body of a line string.
  The reference's body of a polygon.
-/
import Derived.Test.YthfjakbpeclfcaaGreatDoorGRp
import Derived.Deep.RegionLaw
import Derived.Deep.RegionHeld3
import Derived.Deep.DrawnRows
namespace Go.Proofs.YthfjakbpeclfcaaGreatDoor
open Go.RowKit Go
attribute [local go_sem ↓] Go.wp_at_zero Go.wp_at_succ

/-- What the body of a line string leaves. -/
def blR (Q G X cp Y : Nat) (all r : List (Nat × ByteArray)) (bad : Bool) (rd : ByteArray → Option Nat) (d : Nat) (e : Ending) (w' : World) : Prop :=
  ∃ v ys r' b, e = .returned (.agg #[.int .i64 2, .int .i64 d, v, .slice none 0 0]) ∧ w'.ownsRow Y 79 1 v ys.length (fl ys) ∧ (ys.length = 0 → v = .slice none 0 0) ∧ ys.length % dimW d = 0 ∧ ys.length ≤ r.length + 4 ∧ RdS Q G X cp all r' b w' ∧
    (if bad then none else nline rd (dimW d) (txs r)) = if b then none else some (ys, txs r')

set_option maxHeartbeats 8000000 in
set_option maxRecDepth 100000 in
theorem bl_any (B Q G X cp : Nat) (all r : List (Nat × ByteArray)) (bad : Bool) (rd : ByteArray → Option Nat) (w : World) (d : Nat) (hd : d < 4) (h : RdS Q G X cp all r bad w) (hN : NumP B w) (hT : ∀ t ∈ all, TkOk rd t)
    (hBQ : B ≤ Q) (hS : ∀ t ∈ all, t.2.size ≤ 50000) (hall : all.length ≤ 100000) :
    Calls Tryz.prog 39 #[.pointer (some ⟨Q, 0, none⟩), .int .i64 2, .int .i64 d] w fun e w' => blR Q G X cp w.heap.size all r bad rd d e w' ∧ w.grownBy w' (some Q) := by
  obtain ⟨i0, hi, hz0, hz1, hz2⟩ := info_parts inf79
  have hD : dimW d ≤ 4 := by unfold dimW; split; omega; split <;> omega
  have hDp := dimW_pos d
  obtain ⟨D, hDD⟩ : ∃ D, D = dimW d := ⟨_, rfl⟩
  rw [← hDD] at hD hDp
  have hQY : Q < w.heap.size := h.lt
  have hGY : G < w.heap.size := h.ltG
  have hw0 : RdS Q G X cp all r bad ((w.alloc (.cells (#[.int .i64 0, .int .i64 0, .slice none 0 0, .slice none 0 0]) 33)).alloc (.cells (#[.int .i64 2, .int .i64 d, .slice none 0 0, .slice none 0 0]) 33)) :=
    (h.far ((Below.refl _ _).alloc (Nat.le_refl _) _)).far ((Below.refl _ _).alloc (Nat.le_refl _) _)
  have hwd := rword Q G X cp all r bad tEMPTY _ hw0
  have hA := heap_alloc2_old w (.cells (#[.int .i64 0, .int .i64 0, .slice none 0 0, .slice none 0 0]) 33) (.cells (#[.int .i64 2, .int .i64 d, .slice none 0 0, .slice none 0 0]) 33)
  have hB := heap_alloc2_new w (.cells (#[.int .i64 0, .int .i64 0, .slice none 0 0, .slice none 0 0]) 33) (.cells (#[.int .i64 2, .int .i64 d, .slice none 0 0, .slice none 0 0]) 33)
  have hG0 : w.grownBy ((w.alloc (.cells (#[.int .i64 0, .int .i64 0, .slice none 0 0, .slice none 0 0]) 33)).alloc (.cells (#[.int .i64 2, .int .i64 d, .slice none 0 0, .slice none 0 0]) 33)) (some Q) := (World.grownBy_alloc _ _ _).trans (World.grownBy_alloc _ _ _)
  generalize hww : (w.alloc (.cells #[.int .i64 0, .int .i64 0, .slice none 0 0, .slice none 0 0] 33)).alloc (.cells #[.int .i64 2, .int .i64 d, .slice none 0 0, .slice none 0 0] 33) = W1 at *
  have HWW := Lib.hid hww
  have H := Lib.hid hw0
  have HN := Lib.hid hN
  have HT := Lib.hid hT
  have HS := Lib.hid hS
  have HA := Lib.hid hA
  have HB := Lib.hid hB
  have HG0 := Lib.hid hG0
  have HDD := Lib.hid hDD
  clear h hN hT hDD hS hA hB hG0 hw0 hww
  go_enter Tryz.func39, Tryz.ntmps39
  go_wp2_with fail
  rw [HWW.out]
  refine hwd.mono ?_
  rintro e w2 ⟨h2, hg2⟩
  have hYQ : w.heap.size ≠ Q := by omega
  have hYQ1 : w.heap.size + 1 ≠ Q := by omega
  have hA2 : w2.heap[w.heap.size]? = some (.cells #[.int .i64 0, .int .i64 0, .slice none 0 0, .slice none 0 0] 33 (0, 0)) := by
    have h1 := HA.out
    exact (hg2.block _ (Lib.lt_of_heap h1) (fun e => by injection e with e; exact hYQ e)).trans h1
  have hB2 : w2.heap[w.heap.size + 1]? = some (.cells #[.int .i64 2, .int .i64 d, .slice none 0 0, .slice none 0 0] 33 (0, 0)) := by
    have h1 := HB.out
    exact (hg2.block _ (Lib.lt_of_heap h1) (fun e => by injection e with e; exact hYQ1 e)).trans h1
  have HA2 := Lib.hid hA2
  have HB2 := Lib.hid hB2
  have HG2 := Lib.hid (HG0.out.trans hg2)
  clear hA2 hB2 hg2 hwd
  rcases h2 with ⟨t, q, rfl, rfl, h97, hem, rfl, hr2⟩ | ⟨hno, rfl, hw2⟩
  · have HR2 := Lib.hid hr2
    have HEM := Lib.hid hem
    obtain ⟨a0, a1, a2, a3⟩ := cell_four HA2.out
    obtain ⟨b0, b1, b2, b3⟩ := cell_four HB2.out
    have z := Lib.frozen_of_heap HA2.out
    clear hr2 h97 hem
    go_wp2
    refine bodyPost_ret (res_cell rfl _ _ w.heap.size 33 #[_, _, _, _] (0, 0) _ rfl (f4_heap HA2.out) Tryz.underlying33 (by kernel_rfl)) rfl ?_
    refine ⟨⟨_, [], q, false, rfl, World.ownsRow_nil _ _ _ _, fun _ => rfl, Nat.zero_mod _, Nat.zero_le _, f4_rds HA2.out HR2.out (by decide) (by decide), ?_⟩, grown_new HG2.out f4_grown (Nat.le_refl _)⟩
    exact nline_em HEM.out
  · subst hw2
    have ht := rtake Q G X cp all r bad 40 (by decide) w2 H.out
    go_wp2_with fail
    refine ht.mono ?_
    rintro e w3 ⟨h3, hg3⟩
    have hA3 := (hg3.block _ (Lib.lt_of_heap HA2.out) (fun e => by injection e with e; exact hYQ e)).trans HA2.out
    have hB3 := (hg3.block _ (Lib.lt_of_heap HB2.out) (fun e => by injection e with e; exact hYQ1 e)).trans HB2.out
    obtain ⟨N, hNN⟩ : ∃ N, N = (if bad then none else nline rd D (txs r)) := ⟨_, rfl⟩
    have hs3 : ∃ r1 b1 s, e = .returned (.string s) ∧ RdS Q G X cp all r1 b1 w3 ∧ r1.length ≤ r.length ∧ N = if b1 then none else (match nnum rd D (txs r1) with | none => none | some (ys, q) => npts rd D (q.length + 1) ys q) := by
      cases r with
      | nil =>
        obtain ⟨rfl, hr3⟩ := h3
        refine ⟨[], true, _, rfl, hr3, Nat.le_refl _, ?_⟩
        rw [hNN]
        cases bad <;> rfl
      | cons t q =>
        have htk := HT.out t (H.out.mem t (by simp))
        rcases h3 with ⟨rfl, h40, rfl, hr3⟩ | ⟨hor, rfl, hr3⟩
        · refine ⟨q, false, _, rfl, hr3, by simp, ?_⟩
          rw [hNN]
          show nline rd D (t.2 :: txs q) = _
          cases hn : nnum rd D (txs q) with
          | none => exact nline_none (htk.k40.1 h40) hn
          | some z =>
            obtain ⟨ys, q'⟩ := z
            exact nline_some (htk.k40.1 h40) hn
        · refine ⟨t :: q, true, _, rfl, hr3, Nat.le_refl _, ?_⟩
          rw [hNN]
          cases bad with
          | true => rfl
          | false =>
            have h40 : t.1 ≠ 40 := by
              rcases hor with h | h
              · cases h
              · exact h
            show nline rd D (t.2 :: txs q) = _
            exact nline_bad (fun e => hno t q rfl rfl (htk.kem e) e) (fun e => h40 (htk.k40.2 e))
    obtain ⟨r1, b1, s1, rfl, hr3, hle3, hN3⟩ := hs3
    have HR3 := Lib.hid hr3
    have HN3 := Lib.hid hN3
    have HA3 := Lib.hid hA3
    have HB3 := Lib.hid hB3
    have HG3 := Lib.hid (HG2.out.trans hg3)
    have HNN := Lib.hid hNN
    clear h3 hg3 ht hr3 hN3 hA3 hB3 hNN hno
    go_wp2
    go_loopg [26] (r.length + 1) (fun Gm s26 wr => ∃ (acc : List Nat) (nv : Value) (r' : List (Nat × ByteArray)) (b : Bool), r'.length < Gm ∧ wr.heap[w.heap.size]? = some (.cells #[.int .i64 0, .int .i64 0, .slice none 0 0, .slice none 0 0] 33 (0, 0)) ∧
      wr.heap[w.heap.size + 1]? = some (.cells #[.int .i64 2, .int .i64 d, nv, .slice none 0 0] 33 (0, 0)) ∧ wr.ownsRow w.heap.size 79 1 nv acc.length (fl acc) ∧ acc.length % D = 0 ∧ acc.length + r'.length ≤ r.length ∧ RdS Q G X cp all r' b wr ∧ w.grownBy wr (some Q) ∧
      N = if b then none else (match nnum rd D (txs r') with | none => none | some (ys, q) => npts rd D (q.length + 1) (acc ++ ys) q))
    case atStart => exact ⟨[], _, r1, b1, by omega, HA3.out, HB3.out, World.ownsRow_nil _ _ _ _, Nat.zero_mod _, by simpa using hle3, HR3.out, HG3.out, HN3.out⟩
    case round =>
      obtain ⟨acc, nv, r', b, hGm, hA4, hB4, hown, hmod, hacc, hrs, hgr, hrel⟩ := hrel
      have HGM := Lib.hid hGm
      have HA4 := Lib.hid hA4
      have HB4 := Lib.hid hB4
      have HOW := Lib.hid hown
      have HMOD := Lib.hid hmod
      have HACC := Lib.hid hacc
      have HRS := Lib.hid hrs
      have HGR := Lib.hid hgr
      have HREL := Lib.hid hrel
      clear hGm hA4 hB4 hown hmod hacc hrs hgr hrel
      have hlf := leaf2
      go_upto_block 2 with fail
      have hBw : B ≤ w.heap.size := by omega
      have hcall : ∀ W, Below wr.heap.size wr W → Calls Tryz.prog 51 #[.pointer (some ⟨Q, 0, none⟩), .int .i64 d] W fun e w' => ∃ (gv cv : Nat) (ys' : List Nat) (r2 : List (Nat × ByteArray)) (b2 : Bool), e = .returned (.slice (some ⟨gv, 0, none⟩) D cv) ∧
          w'.ownsRow w.heap.size 79 1 (.slice (some ⟨gv, 0, none⟩) D cv) D (fl ys') ∧ ys'.length = D ∧ RdS Q G X cp all r2 b2 w' ∧ (if b then none else nnum rd D (txs r')) = (if b2 then none else some (ys', txs r2)) ∧
          w'.heap[w.heap.size]? = some (.cells #[.int .i64 0, .int .i64 0, .slice none 0 0, .slice none 0 0] 33 (0, 0)) ∧ w'.heap[w.heap.size + 1]? = some (.cells #[.int .i64 2, .int .i64 d, nv, .slice none 0 0] 33 (0, 0)) ∧
          w'.ownsRow w.heap.size 79 1 nv acc.length (fl acc) ∧ w.grownBy w' (some Q) ∧ w.heap.size ≤ w'.heap.size := by
        intro W hb
        have hgW : w.grownBy W (some Q) := HGR.out.trans (below_grown hb _)
        have hp := place_any B Q G X cp all r' b rd W d hd (HRS.out.far hb) (HN.out.below (below_of hgW hBQ hBw)) HT.out hBQ HS.out
        rw [← HDD.out] at hp
        refine hp.mono ?_
        rintro e w' ⟨⟨v, ys', r2, b2, rfl, k1, k2, k3, k4⟩, hg⟩
        obtain ⟨gv, cv, rfl, -, -⟩ := k1.form hDp
        have hA5 : W.heap[w.heap.size]? = _ := (hb.block _ (Lib.lt_of_heap HA4.out)).trans HA4.out
        have hB5 : W.heap[w.heap.size + 1]? = _ := (hb.block _ (Lib.lt_of_heap HB4.out)).trans HB4.out
        exact ⟨gv, cv, ys', r2, b2, rfl, ownsRow_mono k1 hgW.size, k2, k3, k4, (hg.block _ (Lib.lt_of_heap hA5) (fun e => by injection e with e; exact hYQ e)).trans hA5,
          (hg.block _ (Lib.lt_of_heap hB5) (fun e => by injection e with e; exact hYQ1 e)).trans hB5, own_keep (ownsRow_far HOW.out hb) hg hQY, hgW.trans hg, (hgW.trans hg).size⟩
      have hc0 := (cell_four HB4.out).2.2.1
      have HCALL := Lib.hid hcall
      have hac : acc.length ≤ 100000 := by
        have := HACC.out
        have h1 : r.length ≤ all.length := by
          obtain ⟨pre, e⟩ := H.out.pre
          rw [e]
          simp
        omega
      clear hcall
      go_cut [] (fun wx => ∃ (ys' : List Nat) (nv' : Value) (r2 : List (Nat × ByteArray)) (b2 : Bool), wx.heap[w.heap.size]? = some (.cells #[.int .i64 0, .int .i64 0, .slice none 0 0, .slice none 0 0] 33 (0, 0)) ∧
        wx.heap[w.heap.size + 1]? = some (.cells #[.int .i64 2, .int .i64 d, nv', .slice none 0 0] 33 (0, 0)) ∧ wx.ownsRow w.heap.size 79 1 nv' (acc.length + D) (fl (acc ++ ys')) ∧ ys'.length = D ∧ RdS Q G X cp all r2 b2 wx ∧ w.grownBy wx (some Q) ∧
        (if b then none else nnum rd D (txs r')) = (if b2 then none else some (ys', txs r2)))
      case first =>
        go_upto_region 7 with (go_at_call 31; refine (hlf _).mono ?_; rintro e w' ⟨rfl, hw⟩; have hw := hw.symm; subst hw)
        have hH6 : ∀ w5 w6 : World, w5.heap[w.heap.size]? = some (.cells #[.int .i64 0, .int .i64 0, .slice none 0 0, .slice none 0 0] 33 (0, 0)) → w5.heap[w.heap.size + 1]? = some (.cells #[.int .i64 2, .int .i64 d, nv, .slice none 0 0] 33 (0, 0)) →
            w5.ownsRow w.heap.size 79 1 nv acc.length (fl acc) → w5.grownBy w6 nv.ownBlock → w6.heap[w.heap.size]? = some (.cells #[.int .i64 0, .int .i64 0, .slice none 0 0, .slice none 0 0] 33 (0, 0)) ∧ w6.heap[w.heap.size + 1]? = some (.cells #[.int .i64 2, .int .i64 d, nv, .slice none 0 0] 33 (0, 0)) :=
          fun w5 w6 h5 h6 h7 hg => ⟨(hg.block _ (Lib.lt_of_heap h5) (own_ne h7 h5 (by decide))).trans h5, (hg.block _ (Lib.lt_of_heap h6) (own_ne h7 h6 (by decide))).trans h6⟩
        have HH6 := Lib.hid hH6
        have hzf0 := Lib.frozen_of_heap HB4.out 2
        clear hH6
        go_region_law
          (first | ((go_simp; go_at_call 51; refine (HCALL.out wr.drew ⟨rfl, rfl, rfl, Nat.le_refl _, fun _ _ => rfl⟩).mono ?_; rintro e w5 ⟨gv, cv, ys', r2, b2, rfl, k1, k2, k3, k4, k5, k6, k7, k8, k9⟩; have hk5 := (cell_four k6).2.2.1; have hz5 := Lib.frozen_of_heap k6 2)) | ((refine step_append_lies _ (by rfl) (.tmp 30) (.tmp 33) 30 (by rfl) w.heap.size 79 i0 (.float .f64 0) 1 8 Tryz.underlying30 hi hz0 hz1 hz2 rfl (by decide) nv acc.length (fl acc) (by rfl) k7 ⟨gv, 0, none⟩ D cv (fl ys') (by rfl) (by rw [fl_len, k2]; omega) (own_news k1) (fl_one ys') hDp (by unfold maxLen; omega) (by omega) k9 _ rfl ?_; intro g cap w6 hown6 hgrow hat hlt; have hH := HH6.out _ _ k5 k6 k7 hgrow; have hk6 := (cell_four hH.2).2.2.1; have hz6 := Lib.frozen_of_heap hH.2 2)) | fail)
        all_goals
          go_wp2
          go_meet
          have hB6 := Lib.heap_setCell_same (i := 2) hH.2 (.slice (some ⟨g, 0, none⟩) (acc.length + D) cap)
          have hA6 := (Below.heap_setCell w6 ⟨w.heap.size + 1, 2, none⟩ (.slice (some ⟨g, 0, none⟩) (acc.length + D) cap) w.heap.size (by show w.heap.size ≠ w.heap.size + 1; omega)).trans hH.1
          have hb56 : Below w.heap.size w5 w6 := (Below.refl w.heap.size w5).grown hgrow k9 (fun k e => (k7.lt k e).1)
          exact ⟨ys', _, r2, b2, hA6, hB6, by rw [← fl_app]; exact ownsRow_set hown6 hH.2 (by decide), k2, (k3.below hb56 hQY hGY).setX hH.2 (by decide) (by decide),
            grown_new (k8.andThen hgrow (fun j e => .inl (k7.lt j e).1)) (Lib.grownBy_setCell w6 (w.heap.size + 1) 2 _) (Nat.le_succ _), k4⟩
      case rest =>
        obtain ⟨ys', nv', r2, b2, hA7, hB7, hown7, hys, hrs7, hgr7, hrel7⟩ := hcut
        have HA7 := Lib.hid hA7
        have HB7 := Lib.hid hB7
        have HOW7 := Lib.hid hown7
        have HYS := Lib.hid hys
        have HRS7 := Lib.hid hrs7
        have HGR7 := Lib.hid hgr7
        -- what is left of the line
        have hN7 : N = if b2 then none else npts rd D ((txs r2).length + 1) (acc ++ ys') (txs r2) := by
          rw [HREL.out]
          cases b with
          | true =>
            cases b2 with
            | true => rfl
            | false => cases hrel7
          | false =>
            simp only [Bool.false_eq_true, if_false] at hrel7 ⊢
            rw [hrel7]
            cases b2 <;> rfl
        have hlen7 : b2 = false → r2.length + D ≤ r'.length := by
          intro hb2
          subst hb2
          cases b with
          | true => cases hrel7
          | false =>
            have := (nnum_sub (show nnum rd D (txs r') = some (ys', txs r2) from hrel7)).2.1
            rw [txs_len, txs_len] at this
            exact this
        have HN7 := Lib.hid hN7
        have HL7 := Lib.hid hlen7
        have hn := rnext Q G X cp all r2 b2 wc HRS7.out
        clear hA7 hB7 hown7 hys hrs7 hgr7 hrel7 hN7 hlen7 HCALL hc0 hlf
        by_cases h44 : nk r2 b2 = 44
        · have h44' : ((nk r2 b2 : Int) != 44) = false := by rw [bne_eq_false_iff_eq]; omega
          have ht := rtake Q G X cp all r2 b2 44 (by decide) wc HRS7.out
          have H44 := Lib.hid h44
          clear h44
          go_wp2_with fail
          refine hn.mono ?_
          rintro e w' ⟨rfl, hw'⟩
          have hw' := hw'.symm
          subst hw'
          go_wp2_with fail
          refine ht.mono ?_
          rintro e w8 ⟨h8, hg8⟩
          cases r2 with
          | nil => exact absurd (show 0 = 44 from H44.out) (by decide)
          | cons t q =>
            obtain rfl : b2 = false := by
              cases b2 with
              | false => rfl
              | true => exact absurd (show 0 = 44 from H44.out) (by decide)
            have h1 : t.1 = 44 := H44.out
            rcases h8 with ⟨-, -, rfl, hr8⟩ | ⟨h2, -⟩
            · have hcm : t.2 = tCM := (HT.out t (HRS7.out.mem t (by simp))).k44.1 h1
              have HCM := Lib.hid hcm
              have HR8 := Lib.hid hr8
              have HG8 := Lib.hid hg8
              clear ht hr8 hg8 h1 hcm hn
              go_wp2
              go_roundg (gk - 1)
              case measure => have := HGM.out; omega
              case rel =>
                have hl := HL7.out (by trivial)
                simp only [List.length_cons] at hl
                refine ⟨acc ++ ys', nv', q, false, by have := HGM.out; omega, (HG8.out.block _ (Lib.lt_of_heap HA7.out) (fun e => by injection e with e; exact hYQ e)).trans HA7.out,
                  (HG8.out.block _ (Lib.lt_of_heap HB7.out) (fun e => by injection e with e; exact hYQ1 e)).trans HB7.out, by rw [List.length_append, HYS.out]; exact own_keep HOW7.out HG8.out hQY, by rw [List.length_append, HYS.out, Nat.add_mod_right]; exact HMOD.out,
                  by rw [List.length_append, HYS.out]; have := HACC.out; omega, HR8.out, HGR7.out.trans HG8.out, ?_⟩
                rw [HN7.out]
                simp only [Bool.false_eq_true, if_false]
                show npts rd D ((t.2 :: txs q).length + 1) (acc ++ ys') (t.2 :: txs q) = _
                cases hnn : nnum rd D (txs q) with
                | none => rw [npts_none HCM.out hnn]
                | some z =>
                  obtain ⟨ys'', q''⟩ := z
                  rw [npts_step HCM.out hnn]
                  have := (nnum_sub hnn).2.1
                  exact npts_fuel _ _ _ _ (by simp only [List.length_cons]; omega) (by omega)
            · exfalso
              rcases h2 with h2 | h2
              · cases h2
              · exact h2 h1
        · have h44' : ((nk r2 b2 : Int) != 44) = true := by rw [bne_iff_ne]; omega
          have ht := rtake Q G X cp all r2 b2 41 (by decide) wc HRS7.out
          have H44 := Lib.hid h44
          clear h44
          go_wp2_with fail
          refine hn.mono ?_
          rintro e w' ⟨rfl, hw'⟩
          have hw' := hw'.symm
          subst hw'
          go_wp2_with fail
          refine ht.mono ?_
          rintro e w8 ⟨h8, hg8⟩
          have hA8 := (hg8.block _ (Lib.lt_of_heap HA7.out) (fun e => by injection e with e; exact hYQ e)).trans HA7.out
          have hB8 := (hg8.block _ (Lib.lt_of_heap HB7.out) (fun e => by injection e with e; exact hYQ1 e)).trans HB7.out
          have hs8 : ∃ r3 b3 s, e = .returned (.string s) ∧ RdS Q G X cp all r3 b3 w8 ∧ N = if b3 then none else some (acc ++ ys', txs r3) := by
            cases r2 with
            | nil =>
              obtain ⟨rfl, hr8⟩ := h8
              refine ⟨[], true, _, rfl, hr8, ?_⟩
              rw [HN7.out]
              cases b2 <;> rfl
            | cons t q =>
              have htk := HT.out t (HRS7.out.mem t (by simp))
              rcases h8 with ⟨rfl, h41, rfl, hr8⟩ | ⟨hor, rfl, hr8⟩
              · refine ⟨q, false, _, rfl, hr8, ?_⟩
                rw [HN7.out]
                exact npts_rp (htk.k41.1 h41)
              · refine ⟨t :: q, true, _, rfl, hr8, ?_⟩
                rw [HN7.out]
                cases b2 with
                | true => rfl
                | false =>
                  have h41 : t.1 ≠ 41 := by
                    rcases hor with h | h
                    · cases h
                    · exact h
                  exact npts_bad (fun e => h41 (htk.k41.2 e)) (fun e => H44.out (htk.k44.2 e))
          obtain ⟨r3, b3, s3, rfl, hr8, hN8⟩ := hs8
          obtain ⟨gn, cn, hnv, -, -⟩ := HOW7.out.form (by omega)
          subst hnv
          have HR8 := Lib.hid hr8
          have HN8 := Lib.hid hN8
          have HA8 := Lib.hid hA8
          have HB8 := Lib.hid hB8
          have HO8 := Lib.hid (own_keep HOW7.out hg8 hQY)
          have HG8 := Lib.hid (HGR7.out.trans hg8)
          obtain ⟨a0, a1, a2, a3⟩ := cell_four hA8
          obtain ⟨b0, b1, b2', b3'⟩ := cell_four hB8
          have z := Lib.frozen_of_heap hA8
          clear h8 hg8 ht hr8 hN8 hA8 hB8 hn
          go_wp2
          refine bodyPost_ret (res_cell rfl _ _ w.heap.size 33 #[_, _, _, _] (0, 0) _ rfl (f4_heap HA8.out) Tryz.underlying33 (by kernel_rfl)) rfl ?_
          refine ⟨⟨_, acc ++ ys', r3, b3, rfl, ?_, fun h => absurd h (by rw [List.length_append, HYS.out]; omega), ?_, ?_, f4_rds HA8.out HR8.out (by decide) (by decide), ?_⟩, grown_new HG8.out f4_grown (Nat.le_refl _)⟩
          · rw [List.length_append, HYS.out]
            exact f4_own HA8.out HO8.out (by decide)
          · rw [← HDD.out, List.length_append, HYS.out, Nat.add_mod_right]
            exact HMOD.out
          · rw [List.length_append, HYS.out]
            have := HACC.out
            omega
          · rw [← HDD.out, ← HNN.out]
            exact HN8.out
end Go.Proofs.YthfjakbpeclfcaaGreatDoor

namespace Go.Proofs.YthfjakbpeclfcaaGreatDoor
open Go.RowKit Go
attribute [local go_sem ↓] Go.wp_at_zero Go.wp_at_succ

theorem inf33 : (Tryz.prog.info? 33).map (fun i => (i.zero, i.size, i.bytes)) = some (some (.agg #[.int .i64 0, .int .i64 0, .slice none 0 0, .slice none 0 0]), 4, 64) := by kernel_rfl
def kc (d : Nat) (L : List (Value × List Nat)) : List Value := L.flatMap fun p => [.int .i64 2, .int .i64 d, p.1, .slice none 0 0]
theorem kc_len (d : Nat) (L : List (Value × List Nat)) : (kc d L).length = L.length * 4 := by
  induction L with
  | nil => rfl
  | cons a t ih => simp only [kc, List.flatMap_cons, List.length_append, List.length_cons, List.length_nil] at *; omega
theorem kc_snoc (d : Nat) (L : List (Value × List Nat)) (p : Value × List Nat) : kc d (L ++ [p]) = kc d L ++ [.int .i64 2, .int .i64 d, p.1, .slice none 0 0] := by simp [kc]
/-- The kids of a polygon: line strings without kids. -/
structure Kds (X d : Nat) (w : World) (v : Value) (L : List (Value × List Nat)) : Prop where
  own : w.ownsRow X 33 4 v L.length (kc d L)
  each : ∀ p, p ∈ L → w.ownsRow X 79 1 p.1 p.2.length (fl p.2)
section
variable {X d Q : Nat} {w w' : World} {v : Value} {L : List (Value × List Nat)}
theorem Kds.nil (X d : Nat) (w : World) : Kds X d w (.slice none 0 0) [] := ⟨World.ownsRow_nil _ _ _ _, fun p hp => by cases hp⟩
theorem Kds.far (h : Kds X d w v L) (hb : Below w.heap.size w w') : Kds X d w' v L := ⟨ownsRow_far h.own hb, fun p hp => ownsRow_far (h.each p hp) hb⟩
theorem Kds.keep (h : Kds X d w v L) (hg : w.grownBy w' (some Q)) (hQ : Q < X) : Kds X d w' v L := ⟨own_keep h.own hg hQ, fun p hp => own_keep (h.each p hp) hg hQ⟩
theorem Kds.mono {Y : Nat} (h : Kds X d w v L) (hY : Y ≤ X) : Kds Y d w v L := ⟨ownsRow_mono h.own hY, fun p hp => ownsRow_mono (h.each p hp) hY⟩
theorem Kds.setB (h : Kds X d w v L) {g i : Nat} (hg : g < X) (u : Value) : Kds X d (w.setCell ⟨g, i, none⟩ u) v L := ⟨ownsRow_setCell_below h.own (a := ⟨g, i, none⟩) hg u, fun p hp => ownsRow_setCell_below (h.each p hp) (a := ⟨g, i, none⟩) hg u⟩
/-- A kid appended. -/
theorem Kds.snoc {o : Obj} {v' u : Value} {xs : List Nat} (h : Kds X d w v L) (hu : w.ownsRow X 79 1 u xs.length (fl xs)) (hg : (w.alloc o).grownBy w' v.ownBlock) (hown : w'.ownsRow X 33 4 v' (L.length + 1) (kc d L ++ [.int .i64 2, .int .i64 d, u, .slice none 0 0])) : Kds X d w' v' (L ++ [(u, xs)]) := by
  refine ⟨by rw [kc_snoc, List.length_append]; exact hown, fun p hp => ?_⟩
  rcases List.mem_append.1 hp with hp | hp
  · exact ownsRow_grown (h.each p hp) h.own (by decide) hg
  · simp at hp
    subst hp
    exact ownsRow_grown hu h.own (by decide) hg
end
/-- What the body of a polygon leaves. -/
def bpR (Q G X cp Y : Nat) (all r : List (Nat × ByteArray)) (bad : Bool) (rd : ByteArray → Option Nat) (d : Nat) (e : Ending) (w' : World) : Prop :=
  ∃ v L r' b, e = .returned (.agg #[.int .i64 3, .int .i64 d, .slice none 0 0, v]) ∧ Kds Y d w' v L ∧ (∀ p, p ∈ L → p.2.length % dimW d = 0 ∧ p.2.length ≤ all.length + 4 ∧ (p.2.length = 0 → p.1 = .slice none 0 0)) ∧ L.length ≤ r.length + 1 ∧ RdS Q G X cp all r' b w' ∧
    (if bad then none else npoly rd (dimW d) (txs r)) = if b then none else some (L.map (·.2), txs r')
set_option maxHeartbeats 8000000 in
set_option maxRecDepth 100000 in
theorem bp_any (B Q G X cp : Nat) (all r : List (Nat × ByteArray)) (bad : Bool) (rd : ByteArray → Option Nat) (w : World) (d : Nat) (hd : d < 4) (h : RdS Q G X cp all r bad w) (hN : NumP B w) (hT : ∀ t ∈ all, TkOk rd t)
    (hBQ : B ≤ Q) (hS : ∀ t ∈ all, t.2.size ≤ 50000) (hall : all.length ≤ 100000) :
    Calls Tryz.prog 39 #[.pointer (some ⟨Q, 0, none⟩), .int .i64 3, .int .i64 d] w fun e w' => bpR Q G X cp w.heap.size all r bad rd d e w' ∧ w.grownBy w' (some Q) := by
  obtain ⟨i0, hi, hz0, hz1, hz2⟩ := info_parts inf33
  have hD : dimW d ≤ 4 := by unfold dimW; split; omega; split <;> omega
  have hDp := dimW_pos d
  obtain ⟨D, hDD⟩ : ∃ D, D = dimW d := ⟨_, rfl⟩
  rw [← hDD] at hD hDp
  have hQY : Q < w.heap.size := h.lt
  have hGY : G < w.heap.size := h.ltG
  have hw0 : RdS Q G X cp all r bad ((w.alloc (.cells (#[.int .i64 0, .int .i64 0, .slice none 0 0, .slice none 0 0]) 33)).alloc (.cells (#[.int .i64 3, .int .i64 d, .slice none 0 0, .slice none 0 0]) 33)) :=
    (h.far ((Below.refl _ _).alloc (Nat.le_refl _) _)).far ((Below.refl _ _).alloc (Nat.le_refl _) _)
  have hwd := rword Q G X cp all r bad tEMPTY _ hw0
  have hA := heap_alloc2_old w (.cells (#[.int .i64 0, .int .i64 0, .slice none 0 0, .slice none 0 0]) 33) (.cells (#[.int .i64 3, .int .i64 d, .slice none 0 0, .slice none 0 0]) 33)
  have hB := heap_alloc2_new w (.cells (#[.int .i64 0, .int .i64 0, .slice none 0 0, .slice none 0 0]) 33) (.cells (#[.int .i64 3, .int .i64 d, .slice none 0 0, .slice none 0 0]) 33)
  have hG0 : w.grownBy ((w.alloc (.cells (#[.int .i64 0, .int .i64 0, .slice none 0 0, .slice none 0 0]) 33)).alloc (.cells (#[.int .i64 3, .int .i64 d, .slice none 0 0, .slice none 0 0]) 33)) (some Q) := (World.grownBy_alloc _ _ _).trans (World.grownBy_alloc _ _ _)
  generalize hww : (w.alloc (.cells #[.int .i64 0, .int .i64 0, .slice none 0 0, .slice none 0 0] 33)).alloc (.cells #[.int .i64 3, .int .i64 d, .slice none 0 0, .slice none 0 0] 33) = W1 at *
  have HWW := Lib.hid hww
  have H := Lib.hid hw0
  have HN := Lib.hid hN
  have HT := Lib.hid hT
  have HS := Lib.hid hS
  have HA := Lib.hid hA
  have HB := Lib.hid hB
  have HG0 := Lib.hid hG0
  have HDD := Lib.hid hDD
  clear h hN hT hDD hS hA hB hG0 hw0 hww
  go_enter Tryz.func39, Tryz.ntmps39
  go_wp2_with fail
  rw [HWW.out]
  refine hwd.mono ?_
  rintro e w2 ⟨h2, hg2⟩
  have hYQ : w.heap.size ≠ Q := by omega
  have hYQ1 : w.heap.size + 1 ≠ Q := by omega
  have hA2 : w2.heap[w.heap.size]? = some (.cells #[.int .i64 0, .int .i64 0, .slice none 0 0, .slice none 0 0] 33 (0, 0)) := by
    have h1 := HA.out
    exact (hg2.block _ (Lib.lt_of_heap h1) (fun e => by injection e with e; exact hYQ e)).trans h1
  have hB2 : w2.heap[w.heap.size + 1]? = some (.cells #[.int .i64 3, .int .i64 d, .slice none 0 0, .slice none 0 0] 33 (0, 0)) := by
    have h1 := HB.out
    exact (hg2.block _ (Lib.lt_of_heap h1) (fun e => by injection e with e; exact hYQ1 e)).trans h1
  have HA2 := Lib.hid hA2
  have HB2 := Lib.hid hB2
  have HG2 := Lib.hid (HG0.out.trans hg2)
  clear hA2 hB2 hg2 hwd
  rcases h2 with ⟨t, q, rfl, rfl, h97, hem, rfl, hr2⟩ | ⟨hno, rfl, hw2⟩
  · have HR2 := Lib.hid hr2
    have HEM := Lib.hid hem
    obtain ⟨a0, a1, a2, a3⟩ := cell_four HA2.out
    obtain ⟨b0, b1, b2, b3⟩ := cell_four HB2.out
    have z := Lib.frozen_of_heap HA2.out
    clear hr2 h97 hem
    go_wp2
    refine bodyPost_ret (res_cell rfl _ _ w.heap.size 33 #[_, _, _, _] (0, 0) _ rfl (f4_heap HA2.out) Tryz.underlying33 (by kernel_rfl)) rfl ?_
    refine ⟨⟨_, [], q, false, rfl, Kds.nil _ _ _, fun p hp => (by cases hp), Nat.zero_le _, f4_rds HA2.out HR2.out (by decide) (by decide), ?_⟩, grown_new HG2.out f4_grown (Nat.le_refl _)⟩
    exact npoly_em HEM.out
  · subst hw2
    have ht := rtake Q G X cp all r bad 40 (by decide) w2 H.out
    go_wp2_with fail
    refine ht.mono ?_
    rintro e w3 ⟨h3, hg3⟩
    have hA3 := (hg3.block _ (Lib.lt_of_heap HA2.out) (fun e => by injection e with e; exact hYQ e)).trans HA2.out
    have hB3 := (hg3.block _ (Lib.lt_of_heap HB2.out) (fun e => by injection e with e; exact hYQ1 e)).trans HB2.out
    obtain ⟨N, hNN⟩ : ∃ N, N = (if bad then none else npoly rd D (txs r)) := ⟨_, rfl⟩
    have hs3 : ∃ r1 b1 s, e = .returned (.string s) ∧ RdS Q G X cp all r1 b1 w3 ∧ r1.length ≤ r.length ∧ N = if b1 then none else (match nline rd D (txs r1) with | none => none | some (ys, q) => nrings rd D (q.length + 1) [ys] q) := by
      cases r with
      | nil =>
        obtain ⟨rfl, hr3⟩ := h3
        refine ⟨[], true, _, rfl, hr3, Nat.le_refl _, ?_⟩
        rw [hNN]
        cases bad <;> rfl
      | cons t q =>
        have htk := HT.out t (H.out.mem t (by simp))
        rcases h3 with ⟨rfl, h40, rfl, hr3⟩ | ⟨hor, rfl, hr3⟩
        · refine ⟨q, false, _, rfl, hr3, by simp, ?_⟩
          rw [hNN]
          show npoly rd D (t.2 :: txs q) = _
          cases hn : nline rd D (txs q) with
          | none => exact npoly_none (htk.k40.1 h40) hn
          | some z =>
            obtain ⟨ys, q'⟩ := z
            exact npoly_some (htk.k40.1 h40) hn
        · refine ⟨t :: q, true, _, rfl, hr3, Nat.le_refl _, ?_⟩
          rw [hNN]
          cases bad with
          | true => rfl
          | false =>
            have h40 : t.1 ≠ 40 := by
              rcases hor with h | h
              · cases h
              · exact h
            show npoly rd D (t.2 :: txs q) = _
            exact npoly_bad (fun e => hno t q rfl rfl (htk.kem e) e) (fun e => h40 (htk.k40.2 e))
    obtain ⟨r1, b1, s1, rfl, hr3, hle3, hN3⟩ := hs3
    have HR3 := Lib.hid hr3
    have HN3 := Lib.hid hN3
    have HA3 := Lib.hid hA3
    have HB3 := Lib.hid hB3
    have HG3 := Lib.hid (HG2.out.trans hg3)
    have HNN := Lib.hid hNN
    clear h3 hg3 ht hr3 hN3 hA3 hB3 hNN hno
    go_wp2
    go_loopg [26] (r.length + 1) (fun Gm s26 wr => ∃ (L : List (Value × List Nat)) (kv : Value) (r' : List (Nat × ByteArray)) (b : Bool), r'.length < Gm ∧ wr.heap[w.heap.size]? = some (.cells #[.int .i64 0, .int .i64 0, .slice none 0 0, .slice none 0 0] 33 (0, 0)) ∧
      wr.heap[w.heap.size + 1]? = some (.cells #[.int .i64 3, .int .i64 d, .slice none 0 0, kv] 33 (0, 0)) ∧ Kds (w.heap.size + 2) d wr kv L ∧ (∀ p, p ∈ L → p.2.length % D = 0 ∧ p.2.length ≤ all.length + 4 ∧ (p.2.length = 0 → p.1 = .slice none 0 0)) ∧ L.length + r'.length ≤ r.length ∧ RdS Q G X cp all r' b wr ∧ w.grownBy wr (some Q) ∧
      N = if b then none else (match nline rd D (txs r') with | none => none | some (ys, q) => nrings rd D (q.length + 1) (L.map (·.2) ++ [ys]) q))
    case atStart => exact ⟨[], _, r1, b1, by omega, HA3.out, HB3.out, Kds.nil _ _ _, fun p hp => (by cases hp), by simpa using hle3, HR3.out, HG3.out, HN3.out⟩
    case round =>
      obtain ⟨L, kv, r', b, hGm, hA4, hB4, hown, hmod, hacc, hrs, hgr, hrel⟩ := hrel
      have HGM := Lib.hid hGm
      have HA4 := Lib.hid hA4
      have HB4 := Lib.hid hB4
      have HOW := Lib.hid hown
      have HMOD := Lib.hid hmod
      have HACC := Lib.hid hacc
      have HRS := Lib.hid hrs
      have HGR := Lib.hid hgr
      have HREL := Lib.hid hrel
      clear hGm hA4 hB4 hown hmod hacc hrs hgr hrel
      have hlf := leaf3
      have hkd := kid3
      go_upto_block 2 with fail
      have hBw : B ≤ w.heap.size := by omega
      have hra : r.length ≤ all.length := by
        obtain ⟨pre, e⟩ := H.out.pre
        rw [e]
        simp
      have hra' : r'.length ≤ all.length := by
        obtain ⟨pre, e⟩ := HRS.out.pre
        rw [e]
        simp
      have hcall : ∀ W, Below wr.heap.size wr W → Calls Tryz.prog 39 #[.pointer (some ⟨Q, 0, none⟩), .int .i64 2, .int .i64 d] W fun e w' => ∃ (ao : Option Addr) (n cv : Nat) (ys' : List Nat) (r2 : List (Nat × ByteArray)) (b2 : Bool), e = .returned (.agg #[.int .i64 2, .int .i64 d, .slice ao n cv, .slice none 0 0]) ∧
          w'.ownsRow (w.heap.size + 2) 79 1 (.slice ao n cv) ys'.length (fl ys') ∧ (ys'.length % D = 0 ∧ ys'.length ≤ all.length + 4 ∧ (ys'.length = 0 → Value.slice ao n cv = .slice none 0 0)) ∧ RdS Q G X cp all r2 b2 w' ∧ (if b then none else nline rd D (txs r')) = (if b2 then none else some (ys', txs r2)) ∧
          w'.heap[w.heap.size]? = some (.cells #[.int .i64 0, .int .i64 0, .slice none 0 0, .slice none 0 0] 33 (0, 0)) ∧ w'.heap[w.heap.size + 1]? = some (.cells #[.int .i64 3, .int .i64 d, .slice none 0 0, kv] 33 (0, 0)) ∧
          Kds (w.heap.size + 2) d w' kv L ∧ w.grownBy w' (some Q) ∧ w.heap.size + 2 ≤ w'.heap.size := by
        intro W hb
        have hgW : w.grownBy W (some Q) := HGR.out.trans (below_grown hb _)
        have hp := bl_any B Q G X cp all r' b rd W d hd (HRS.out.far hb) (HN.out.below (below_of hgW hBQ hBw)) HT.out hBQ HS.out hall
        refine hp.mono ?_
        rintro e w' ⟨⟨v, ys', r2, b2, rfl, k1, k1n, k2, k3, k4, k5⟩, hg⟩
        obtain ⟨ao, cv, rfl⟩ := ownsRow_slice k1
        rw [← HDD.out] at k2 k5
        have hA5 : W.heap[w.heap.size]? = _ := (hb.block _ (Lib.lt_of_heap HA4.out)).trans HA4.out
        have hB5 : W.heap[w.heap.size + 1]? = _ := (hb.block _ (Lib.lt_of_heap HB4.out)).trans HB4.out
        have hB6 := (hg.block _ (Lib.lt_of_heap hB5) (fun e => by injection e with e; exact hYQ1 e)).trans hB5
        exact ⟨ao, _, cv, ys', r2, b2, rfl, ownsRow_mono k1 (Lib.lt_of_heap hB5), ⟨k2, by omega, k1n⟩, k4, k5, (hg.block _ (Lib.lt_of_heap hA5) (fun e => by injection e with e; exact hYQ e)).trans hA5,
          hB6, (HOW.out.far hb).keep hg (by omega), hgW.trans hg, Lib.lt_of_heap hB6⟩
      have hc0 := (cell_four HB4.out).2.2.2
      have HCALL := Lib.hid hcall
      have hac : L.length ≤ 100000 := by
        have := HACC.out
        omega
      clear hcall
      go_cut [] (fun wx => ∃ (ys' : List Nat) (L' : List (Value × List Nat)) (kv' : Value) (r2 : List (Nat × ByteArray)) (b2 : Bool), wx.heap[w.heap.size]? = some (.cells #[.int .i64 0, .int .i64 0, .slice none 0 0, .slice none 0 0] 33 (0, 0)) ∧
        wx.heap[w.heap.size + 1]? = some (.cells #[.int .i64 3, .int .i64 d, .slice none 0 0, kv'] 33 (0, 0)) ∧ Kds (w.heap.size + 2) d wx kv' L' ∧ L'.map (·.2) = L.map (·.2) ++ [ys'] ∧ (∀ p, p ∈ L' → p.2.length % D = 0 ∧ p.2.length ≤ all.length + 4 ∧ (p.2.length = 0 → p.1 = .slice none 0 0)) ∧ RdS Q G X cp all r2 b2 wx ∧ w.grownBy wx (some Q) ∧
        (if b then none else nline rd D (txs r')) = (if b2 then none else some (ys', txs r2)))
      case first =>
        go_upto_region 5 with (go_at_call 31; refine (hlf _).mono ?_; rintro e w' ⟨rfl, hw⟩; have hw := hw.symm; subst hw)
        have hH6 : ∀ w5 w6 : World, ∀ o, w5.heap[w.heap.size]? = some (.cells #[.int .i64 0, .int .i64 0, .slice none 0 0, .slice none 0 0] 33 (0, 0)) → w5.heap[w.heap.size + 1]? = some (.cells #[.int .i64 3, .int .i64 d, .slice none 0 0, kv] 33 (0, 0)) →
            Kds (w.heap.size + 2) d w5 kv L → (w5.alloc o).grownBy w6 kv.ownBlock → w6.heap[w.heap.size]? = some (.cells #[.int .i64 0, .int .i64 0, .slice none 0 0, .slice none 0 0] 33 (0, 0)) ∧ w6.heap[w.heap.size + 1]? = some (.cells #[.int .i64 3, .int .i64 d, .slice none 0 0, kv] 33 (0, 0)) := by
          intro w5 w6 o h5 h6 h7 hg
          have hlt5 := Lib.lt_of_heap h5
          have hlt6 := Lib.lt_of_heap h6
          refine ⟨(hg.block _ (by simp; omega) (fun e => ?_)).trans ((Below.heap_alloc w5 o _ hlt5).trans h5), (hg.block _ (by simp; omega) (fun e => ?_)).trans ((Below.heap_alloc w5 o _ hlt6).trans h6)⟩
          · have := (h7.own.lt _ e.symm).1
            omega
          · have := (h7.own.lt _ e.symm).1
            omega
        have HH6 := Lib.hid hH6
        have hzf0 := Lib.frozen_of_heap HB4.out 3
        clear hH6
        go_region_law
          (first | ((go_simp; go_at_call 33; refine (hkd _).mono ?_; rintro e w' ⟨rfl, hw⟩; have hw := hw.symm; subst hw)) | ((go_simp; go_at_call 39; refine (HCALL.out wr.drew ⟨rfl, rfl, rfl, Nat.le_refl _, fun _ _ => rfl⟩).mono ?_; rintro e w5 ⟨ao, n, cv, ys', r2, b2, rfl, k1, k2, k3, k4, k5, k6, k7, k8, k9⟩; have hk5 := (cell_four k6).2.2.2; have hz5 := Lib.frozen_of_heap k6 3; have hk5a := fun o => (cell_four ((Below.heap_alloc w5 o _ (Lib.lt_of_heap k6)).trans k6)).2.2.2; have hz5a := fun o => Lib.frozen_of_heap ((Below.heap_alloc w5 o _ (Lib.lt_of_heap k6)).trans k6) 3)) | ((refine step_append_lies _ (by rfl) (.tmp 17) (.tmp 23) 31 (by rfl) (w.heap.size + 2) 33 i0 (.agg #[.int .i64 0, .int .i64 0, .slice none 0 0, .slice none 0 0]) 4 64 Tryz.underlying31 hi hz0 hz1 hz2 rfl (by decide) kv L.length (kc d L) (by rfl) (k7.own.alloc _) ⟨w5.heap.size, 0, none⟩ 1 1 [.int .i64 2, .int .i64 d, .slice ao n cv, .slice none 0 0] (by rfl) rfl (World.news_of_block (heap_alloc_new w5 _)) (by intro u hu; simp at hu; rcases hu with rfl | rfl | rfl | rfl <;> rfl) (by decide) (by unfold maxLen; omega) (by omega) (by simp; omega) _ rfl ?_; intro g cap w6 hown6 hgrow hat hlt; have hH := HH6.out _ _ _ k5 k6 k7 hgrow; have hk6 := (cell_four hH.2).2.2.2; have hz6 := Lib.frozen_of_heap hH.2 3)) | fail)
        all_goals
          go_wp2
          go_meet
          have hB6 := Lib.heap_setCell_same (i := 3) hH.2 (.slice (some ⟨g, 0, none⟩) (L.length + 1) cap)
          have hA6 := (Below.heap_setCell w6 ⟨w.heap.size + 1, 3, none⟩ (.slice (some ⟨g, 0, none⟩) (L.length + 1) cap) w.heap.size (by show w.heap.size ≠ w.heap.size + 1; omega)).trans hH.1
          have hb56 : Below (w.heap.size + 2) w5 w6 := ((Below.refl (w.heap.size + 2) w5).alloc k9 _).grown hgrow (by simp; omega) (fun k e => (k7.own.lt k e).1)
          exact ⟨ys', L ++ [(.slice ao n cv, ys')], _, r2, b2, hA6, hB6, (k7.snoc k1 hgrow hown6).setB (by omega) _, by rw [List.map_append]; rfl,
            fun p hp => by
              rcases List.mem_append.1 hp with hp | hp
              · exact HMOD.out p hp
              · simp at hp
                subst hp
                exact k2,
            (k3.below hb56 (by omega) (by omega)).setX hH.2 (by decide) (by decide),
            grown_new (k8.andThen ((World.grownBy_alloc w5 _ _).trans hgrow) (fun j e => .inl (by have := (k7.own.lt j e).1; omega))) (Lib.grownBy_setCell w6 (w.heap.size + 1) 3 _) (Nat.le_succ _), k4⟩
      case rest =>
        obtain ⟨ys', L', kv', r2, b2, hA7, hB7, hown7, hys, hmd7, hrs7, hgr7, hrel7⟩ := hcut
        have HA7 := Lib.hid hA7
        have HB7 := Lib.hid hB7
        have HOW7 := Lib.hid hown7
        have HYS := Lib.hid hys
        have HMD7 := Lib.hid hmd7
        have HRS7 := Lib.hid hrs7
        have HGR7 := Lib.hid hgr7
        -- what is left of the line
        have hN7 : N = if b2 then none else nrings rd D ((txs r2).length + 1) (L.map (·.2) ++ [ys']) (txs r2) := by
          rw [HREL.out]
          cases b with
          | true =>
            cases b2 with
            | true => rfl
            | false => cases hrel7
          | false =>
            simp only [Bool.false_eq_true, if_false] at hrel7 ⊢
            rw [hrel7]
            cases b2 <;> rfl
        have hlen7 : b2 = false → r2.length < r'.length := by
          intro hb2
          subst hb2
          cases b with
          | true => cases hrel7
          | false =>
            have := (nline_sub (show nline rd D (txs r') = some (ys', txs r2) from hrel7)).2
            rw [txs_len, txs_len] at this
            exact this
        have HN7 := Lib.hid hN7
        have HL7 := Lib.hid hlen7
        have hn := rnext Q G X cp all r2 b2 wc HRS7.out
        clear hA7 hB7 hown7 hys hmd7 hrs7 hgr7 hrel7 hN7 hlen7 HCALL hc0 hlf hkd
        by_cases h44 : nk r2 b2 = 44
        · have h44' : ((nk r2 b2 : Int) != 44) = false := by rw [bne_eq_false_iff_eq]; omega
          have ht := rtake Q G X cp all r2 b2 44 (by decide) wc HRS7.out
          have H44 := Lib.hid h44
          clear h44
          go_wp2_with fail
          refine hn.mono ?_
          rintro e w' ⟨rfl, hw'⟩
          have hw' := hw'.symm
          subst hw'
          go_wp2_with fail
          refine ht.mono ?_
          rintro e w8 ⟨h8, hg8⟩
          cases r2 with
          | nil => exact absurd (show 0 = 44 from H44.out) (by decide)
          | cons t q =>
            obtain rfl : b2 = false := by
              cases b2 with
              | false => rfl
              | true => exact absurd (show 0 = 44 from H44.out) (by decide)
            have h1 : t.1 = 44 := H44.out
            rcases h8 with ⟨-, -, rfl, hr8⟩ | ⟨h2, -⟩
            · have hcm : t.2 = tCM := (HT.out t (HRS7.out.mem t (by simp))).k44.1 h1
              have HCM := Lib.hid hcm
              have HR8 := Lib.hid hr8
              have HG8 := Lib.hid hg8
              clear ht hr8 hg8 h1 hcm hn
              go_wp2
              go_roundg (gk - 1)
              case measure => have := HGM.out; omega
              case rel =>
                have hl := HL7.out (by trivial)
                simp only [List.length_cons] at hl
                refine ⟨L', kv', q, false, by have := HGM.out; omega, (HG8.out.block _ (Lib.lt_of_heap HA7.out) (fun e => by injection e with e; exact hYQ e)).trans HA7.out,
                  (HG8.out.block _ (Lib.lt_of_heap HB7.out) (fun e => by injection e with e; exact hYQ1 e)).trans HB7.out, HOW7.out.keep HG8.out (by omega), HMD7.out,
                  by have h1 := congrArg List.length HYS.out; simp only [List.length_map, List.length_append, List.length_cons, List.length_nil] at h1; have := HACC.out; omega, HR8.out, HGR7.out.trans HG8.out, ?_⟩
                rw [HN7.out, HYS.out]
                simp only [Bool.false_eq_true, if_false]
                show nrings rd D ((t.2 :: txs q).length + 1) (L.map (·.2) ++ [ys']) (t.2 :: txs q) = _
                cases hnn : nline rd D (txs q) with
                | none => rw [nrings_none HCM.out hnn]
                | some z =>
                  obtain ⟨ys'', q''⟩ := z
                  rw [nrings_step HCM.out hnn]
                  have := (nline_sub hnn).2
                  exact nrings_fuel _ _ _ _ (by simp only [List.length_cons]; omega) (by omega)
            · exfalso
              rcases h2 with h2 | h2
              · cases h2
              · exact h2 h1
        · have h44' : ((nk r2 b2 : Int) != 44) = true := by rw [bne_iff_ne]; omega
          have ht := rtake Q G X cp all r2 b2 41 (by decide) wc HRS7.out
          have H44 := Lib.hid h44
          clear h44
          go_wp2_with fail
          refine hn.mono ?_
          rintro e w' ⟨rfl, hw'⟩
          have hw' := hw'.symm
          subst hw'
          go_wp2_with fail
          refine ht.mono ?_
          rintro e w8 ⟨h8, hg8⟩
          have hA8 := (hg8.block _ (Lib.lt_of_heap HA7.out) (fun e => by injection e with e; exact hYQ e)).trans HA7.out
          have hB8 := (hg8.block _ (Lib.lt_of_heap HB7.out) (fun e => by injection e with e; exact hYQ1 e)).trans HB7.out
          have hs8 : ∃ r3 b3 s, e = .returned (.string s) ∧ RdS Q G X cp all r3 b3 w8 ∧ N = if b3 then none else some (L'.map (·.2), txs r3) := by
            cases r2 with
            | nil =>
              obtain ⟨rfl, hr8⟩ := h8
              refine ⟨[], true, _, rfl, hr8, ?_⟩
              rw [HN7.out]
              cases b2 <;> rfl
            | cons t q =>
              have htk := HT.out t (HRS7.out.mem t (by simp))
              rcases h8 with ⟨rfl, h41, rfl, hr8⟩ | ⟨hor, rfl, hr8⟩
              · refine ⟨q, false, _, rfl, hr8, ?_⟩
                rw [HN7.out]
                rw [HYS.out]
                exact nrings_rp (htk.k41.1 h41)
              · refine ⟨t :: q, true, _, rfl, hr8, ?_⟩
                rw [HN7.out]
                cases b2 with
                | true => rfl
                | false =>
                  have h41 : t.1 ≠ 41 := by
                    rcases hor with h | h
                    · cases h
                    · exact h
                  exact nrings_bad (fun e => h41 (htk.k41.2 e)) (fun e => H44.out (htk.k44.2 e))
          obtain ⟨r3, b3, s3, rfl, hr8, hN8⟩ := hs8
          obtain ⟨gn, cn, hnv, -, -⟩ := HOW7.out.own.form (by have h1 := congrArg List.length HYS.out; simp only [List.length_map, List.length_append, List.length_cons, List.length_nil] at h1; omega)
          have hlen' : L'.length = L.length + 1 := by have h1 := congrArg List.length HYS.out; simp only [List.length_map, List.length_append, List.length_cons, List.length_nil] at h1; omega
          generalize hLL : L'.length = nn at hnv
          subst hnv
          have HR8 := Lib.hid hr8
          have HN8 := Lib.hid hN8
          have HA8 := Lib.hid hA8
          have HB8 := Lib.hid hB8
          have HO8 := Lib.hid (HOW7.out.keep hg8 (by omega))
          have HG8 := Lib.hid (HGR7.out.trans hg8)
          have HLL := Lib.hid hLL
          have HLN := Lib.hid hlen'
          obtain ⟨a0, a1, a2, a3⟩ := cell_four hA8
          obtain ⟨b0, b1, b2', b3'⟩ := cell_four hB8
          have z := Lib.frozen_of_heap hA8
          clear h8 hg8 ht hr8 hN8 hA8 hB8 hn hLL hlen'
          go_wp2
          refine bodyPost_ret (res_cell rfl _ _ w.heap.size 33 #[_, _, _, _] (0, 0) _ rfl (f4_heap HA8.out) Tryz.underlying33 (by kernel_rfl)) rfl ?_
          refine ⟨⟨_, L', r3, b3, rfl, ?_, ?_, ?_, f4_rds HA8.out HR8.out (by decide) (by decide), ?_⟩, grown_new HG8.out f4_grown (Nat.le_refl _)⟩
          · exact ((((HO8.out.setB (g := w.heap.size) (by omega) _).setB (by omega) _).setB (by omega) _).setB (by omega) _).mono (by omega)
          · rw [← HDD.out]
            exact HMD7.out
          · have := HACC.out
            have := HLN.out
            omega
          · rw [← HDD.out, ← HNN.out]
            exact HN8.out
end Go.Proofs.YthfjakbpeclfcaaGreatDoor
