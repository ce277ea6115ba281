/-
  Sequence, LineString and Polygon: types of coordinates, NewPolygon.
  NewPolygon.
  The parser's nextPolygonText.
  The parser's nextPolygonText.
-/
import Derived.Test.YthfjakbpeclfcaaGreatDoorPy
namespace Go.Proofs.YthfjakbpeclfcaaGreatDoor
open Go.RowKit Go

set_option maxHeartbeats 1000000 in
set_option maxRecDepth 100000 in
theorem sct_any (d : Int) (ao : Option Addr) (n c : Nat) (w : World) :
    Calls Tryz.prog 59 #[.agg #[.int .u8 d, .slice ao n c]] w fun e w' => e = .returned (.int .u8 d) ∧ Below w.heap.size w w' := by
  go_enter Tryz.func59, Tryz.ntmps59
  go_wp2
  go_ret
  exact ⟨rfl, (Below.refl _ _).alloc (Nat.le_refl _) _⟩
set_option maxHeartbeats 1000000 in
set_option maxRecDepth 100000 in
theorem lct_any (d : Int) (ao : Option Addr) (n c : Nat) (w : World) :
    Calls Tryz.prog 58 #[.agg #[.int .u8 d, .slice ao n c]] w fun e w' => e = .returned (.int .u8 d) ∧ Below w.heap.size w w' := by
  have h := sct_any d ao n c (w.alloc (.cells #[.int .u8 d, .slice ao n c] 67))
  go_enter Tryz.func58, Tryz.ntmps58
  go_wp2_with fail
  refine h.mono ?_
  rintro e w1 ⟨rfl, hb⟩
  go_wp2
  go_ret
  exact ⟨rfl, ((Below.refl _ _).alloc (Nat.le_refl _) _).trans (below_far hb (by simp))⟩
set_option maxHeartbeats 1000000 in
set_option maxRecDepth 100000 in
theorem pct_any (d : Int) (ao : Option Addr) (n c : Nat) (w : World) :
    Calls Tryz.prog 24 #[.agg #[.slice ao n c, .int .u8 d]] w fun e w' => e = .returned (.int .u8 d) ∧ Below w.heap.size w w' := by
  go_enter Tryz.func24, Tryz.ntmps24
  go_wp2
  go_ret
  exact ⟨rfl, (Below.refl _ _).alloc (Nat.le_refl _) _⟩
set_option maxHeartbeats 1000000 in
set_option maxRecDepth 100000 in
theorem sfc_eq (d : Int) (ao : Option Addr) (n c : Nat) (w : World) :
    Calls Tryz.prog 70 #[.agg #[.int .u8 d, .slice ao n c], .int .u8 d] w fun e w' => e = .returned (.agg #[.int .u8 d, .slice ao n c]) ∧ Below w.heap.size w w' := by
  go_enter Tryz.func70, Tryz.ntmps70
  go_wp2
  refine bodyPost_ret (res_cell rfl _ _ (w.heap.size + 1) 65 #[.int .u8 d, .slice ao n c] (0, 0) _ rfl (heap_alloc2_new _ _ _) Tryz.underlying65 (by kernel_rfl)) rfl ?_
  exact ⟨rfl, ((Below.refl _ _).alloc (Nat.le_refl _) _).alloc (by simp) _⟩
set_option maxHeartbeats 1000000 in
set_option maxRecDepth 100000 in
theorem lfc_eq (d : Int) (ao : Option Addr) (n c : Nat) (w : World) :
    Calls Tryz.prog 57 #[.agg #[.int .u8 d, .slice ao n c], .int .u8 d] w fun e w' => e = .returned (.agg #[.int .u8 d, .slice ao n c]) ∧ Below w.heap.size w w' := by
  have hb0 : Below w.heap.size w ((w.alloc (.cells #[.int .u8 d, .slice ao n c] 67)).alloc (.cells #[.int .u8 0, .slice none 0 0] 67)) := ((Below.refl _ _).alloc (Nat.le_refl _) _).alloc (by simp) _
  have h := sfc_eq d ao n c ((w.alloc (.cells #[.int .u8 d, .slice ao n c] 67)).alloc (.cells #[.int .u8 0, .slice none 0 0] 67))
  have hnew := heap_alloc2_new w (.cells #[.int .u8 d, .slice ao n c] 67) (.cells #[.int .u8 0, .slice none 0 0] 67)
  have HB0 := Lib.hid hb0
  have HN := Lib.hid hnew
  clear hb0 hnew
  go_enter Tryz.func57, Tryz.ntmps57
  go_wp2_with fail
  refine h.mono ?_
  rintro e w1 ⟨rfl, hb⟩
  have hrb := rb_far HN.out hb
  have c0 : w1.cell? ⟨w.heap.size + 1, 0, none⟩ = some (.int .u8 0) := by rw [Lib.cell_of_heap hrb]; rfl
  have c1 : w1.cell? ⟨w.heap.size + 1, 1, none⟩ = some (.slice none 0 0) := by rw [Lib.cell_of_heap hrb]; rfl
  have z := Lib.frozen_of_heap hrb
  have HRB := Lib.hid hrb
  have HB := Lib.hid (HB0.out.trans (below_far hb HB0.out.size))
  clear hrb hb h
  go_wp2
  refine bodyPost_ret (res_cell rfl _ _ (w.heap.size + 1) 67 #[.int .u8 d, .slice ao n c] (0, 0) _ rfl (rb_heap HRB.out) Tryz.underlying67 (by kernel_rfl)) rfl ?_
  exact ⟨rfl, (HB.out.setCell (p := ⟨w.heap.size + 1, 0, none⟩) (Nat.le_succ _) _).setCell (p := ⟨w.heap.size + 1, 1, none⟩) (Nat.le_succ _) _⟩
end Go.Proofs.YthfjakbpeclfcaaGreatDoor

namespace Go.Proofs.YthfjakbpeclfcaaGreatDoor
open Go.RowKit Go

theorem rc_at (d : Nat) : ∀ (L : List (Value × List Nat)) (i : Nat) (p : Value × List Nat), L[i]? = some p → (rc d L)[i * 2]? = some (.int .u8 d) ∧ (rc d L)[i * 2 + 1]? = some p.1
  | [], i, p, h => by cases h
  | a :: t, 0, p, h => by
    simp at h
    subst h
    exact ⟨rfl, rfl⟩
  | a :: t, i + 1, p, h => by
    have := rc_at d t i p h
    rw [show (i + 1) * 2 = i * 2 + 1 + 1 from by omega]
    exact this
theorem Rows.at {X d g cap n : Nat} {w : World} {L : List (Value × List Nat)} (h : Rows X d w (.slice (some ⟨g, 0, none⟩) n cap) L) (hn : n = L.length) (i : Nat) (p : Value × List Nat) (hp : L[i]? = some p) :
    w.cell? ⟨g, i * 2, none⟩ = some (.int .u8 d) ∧ w.cell? ⟨g, i * 2 + 1, none⟩ = some p.1 := by
  subst hn
  have hi : i < L.length := (List.getElem?_eq_some_iff.1 hp).1
  have := rc_at d L i p hp
  exact ⟨(h.own.cellAt (i * 2) (by omega)).trans this.1, (h.own.cellAt (i * 2 + 1) (by omega)).trans this.2⟩

theorem rc_one {X d : Nat} {w : World} {v : Value} {L : List (Value × List Nat)} (h : Rows X d w v L) : ∀ u ∈ rc d L, u.oneCell' = true := by
  intro u hu
  unfold rc at hu
  rw [List.mem_flatMap] at hu
  obtain ⟨p, hp, hu⟩ := hu
  obtain ⟨ao, c, hps⟩ := ownsRow_slice (h.each p hp)
  rw [hps] at hu
  simp at hu
  rcases hu with rfl | rfl <;> rfl
theorem list_set_same {α : Type} {l : List α} {i : Nat} {x : α} (h : l[i]? = some x) : l.set i x = l := by
  apply List.ext_getElem?
  intro j
  rw [List.getElem?_set]
  split
  · rename_i e
    subst e
    rw [h]
    have := (List.getElem?_eq_some_iff.1 h).1
    rw [if_pos this]
  · rfl
theorem and3 (d : Nat) (hd : d < 4) : bits .and .u8 3 d = d := by
  have : d = 0 ∨ d = 1 ∨ d = 2 ∨ d = 3 := by omega
  rcases this with rfl | rfl | rfl | rfl <;> decide
theorem and_self8 (d : Nat) (hd : d < 4) : bits .and .u8 d d = d := by
  have : d = 0 ∨ d = 1 ∨ d = 2 ∨ d = 3 := by omega
  rcases this with rfl | rfl | rfl | rfl <;> decide

set_option maxHeartbeats 4000000 in
set_option maxRecDepth 100000 in
theorem np_any (X : Nat) (w : World) (d : Nat) (hd : d < 4) (v : Value) (L : List (Value × List Nat)) (hL : 0 < L.length) (hr : Rows X d w v L) (hX : X ≤ w.heap.size) (hlen : L.length ≤ 100000) :
    Calls Tryz.prog 44 #[v] w fun e w' => (∃ v', e = .returned (.agg #[v', .int .u8 d]) ∧ Rows X d w' v' L) ∧ Below w.heap.size w w' := by
  obtain ⟨i0, hi, hz0, hz1, hz2⟩ := info_parts inf67
  obtain ⟨g, cap, rfl, hg1, hg2⟩ : ∃ g cap, v = .slice (some ⟨g, 0, none⟩) L.length cap ∧ X ≤ g ∧ g < w.heap.size := hr.own.form hL
  have HR := Lib.hid hr
  have hL' : (0 : Int) < (L.length : Int) := by omega
  clear hr
  go_enter Tryz.func44, Tryz.ntmps44
  go_wp2
  go_loopg [3, 12] L.length (fun G s3 s12 wr => ∃ (i : Nat) (m : Int), G = L.length - i ∧ i ≤ L.length ∧ s12 = .int .i64 i ∧ s3 = .int .u8 m ∧ bits .and .u8 m d = d ∧ (0 < i → m = d) ∧ Below w.heap.size w wr ∧ wr.heap[w.heap.size]? = some (.cells #[.slice none 0 0, .int .u8 0] 41 (0, 0)))
  case atStart => exact ⟨0, 3, rfl, Nat.zero_le _, rfl, rfl, and3 d hd, fun h => absurd h (Nat.lt_irrefl 0), (Below.refl _ _).alloc (Nat.le_refl _) _, heap_alloc_new _ _⟩
  case round =>
    obtain ⟨i, m, hG, hiL, rfl, rfl, hand, hm, hb, hrb⟩ := hrel
    have HG := Lib.hid hG
    have HB := Lib.hid hb
    have HRB := Lib.hid hrb
    have HM := Lib.hid hm
    have hrw := HR.out.far hb
    clear hG hb hrb hm
    by_cases hlt : i < L.length
    · have hlt' : (i : Int) < (L.length : Int) := by omega
      obtain ⟨p, hp⟩ : ∃ p, L[i]? = some p := ⟨_, List.getElem?_eq_getElem hlt⟩
      obtain ⟨c0, c1⟩ := hrw.at rfl i p hp
      obtain ⟨ao, c, hps⟩ := ownsRow_slice (hrw.each p (List.mem_of_getElem? hp))
      rw [hps] at c1
      have hcall := lct_any d ao p.2.length c (wr.alloc (.cells #[.int .u8 d, .slice ao p.2.length c] 67))
      have hbA : Below w.heap.size w (wr.alloc (.cells #[.int .u8 d, .slice ao p.2.length c] 67)) := HB.out.alloc HB.out.size _
      have HBA := Lib.hid hbA
      have HRB2 := Lib.hid ((Below.heap_alloc wr (.cells #[.int .u8 d, .slice ao p.2.length c] 67) _ (Lib.lt_of_heap HRB.out)).trans HRB.out)
      have HAND := Lib.hid (and_self8 d hd)
      clear hp hps hrw hbA
      go_wp2_with fail
      refine hcall.mono ?_
      rintro e w1 ⟨rfl, hb1⟩
      have HB1 := Lib.hid (HBA.out.trans (below_far hb1 HBA.out.size))
      have HRB1 := Lib.hid (rb_far HRB2.out hb1)
      clear hcall hb1
      go_wp2
      go_roundg (gk - 1)
      case measure => have := HG.out; omega
      case rel => exact ⟨i + 1, d, by have := HG.out; omega, by omega, by go_num, rfl, HAND.out, fun _ => rfl, HB1.out, HRB1.out⟩
    · have hlt' : ¬ (i : Int) < (L.length : Int) := by omega
      have hmd : m = d := HM.out (by omega)
      subst hmd
      have hownY := World.ownsRow_nil wr w.heap.size 67 2
      have hsz := HB.out.size
      have hnews := hrw.own.cells (g := g) rfl
      have hlen2 := rc_len d L
      have hone : ∀ u ∈ rc d L, u.oneCell' = true := rc_one hrw
      have HRW := Lib.hid hrw
      have HNEWS := Lib.hid hnews
      clear hrw hnews
      go_wp2_with (at_builtin; refine wpList_append_own _ rfl _ _ 38 rfl w.heap.size 67 i0 (.agg #[.int .u8 0, .slice none 0 0]) 2 32 Tryz.underlying38 hi hz0 hz1 hz2 rfl (by decide) _ _ _ rfl hownY ⟨g, 0, none⟩ L.length cap (rc d L) rfl hlen2 HNEWS.out hone (by unfold maxLen; omega) (by omega) hsz ?_)
      intro v' w1 hown1 hgrow _
      obtain ⟨g', cap', rfl, hg1', hg2'⟩ := hown1.form (by omega)
      have hb1 : Below w.heap.size w w1 := HB.out.grown hgrow HB.out.size (fun k hk => by cases hk)
      have hrb1 : w1.heap[w.heap.size]? = some (.cells #[.slice none 0 0, .int .u8 0] 41 (0, 0)) := (hgrow.block _ (Lib.lt_of_heap HRB.out) (by simp [Value.ownBlock])).trans HRB.out
      have HO1 := Lib.hid hown1
      have HB1 := Lib.hid hb1
      have HRB1 := Lib.hid hrb1
      have HONE := Lib.hid hone
      clear hown1 hgrow hb1 hrb1 hownY hlen2 hone
      go_wp2
      go_loopg [25] L.length (fun G s25 wr => ∃ i : Nat, G = L.length - i ∧ i ≤ L.length ∧ s25 = .int .i64 i ∧ wr.ownsRow w.heap.size 67 2 (.slice (some ⟨g', 0, none⟩) L.length cap') L.length (rc d L) ∧ Below w.heap.size w wr ∧
        wr.heap[w.heap.size]? = some (.cells #[.slice none 0 0, .int .u8 0] 41 (0, 0)))
      case atStart => exact ⟨0, rfl, Nat.zero_le _, rfl, HO1.out, HB1.out, HRB1.out⟩
      case round =>
        obtain ⟨i, hG, hiL, rfl, hown, hb, hrb⟩ := hrel
        have HG := Lib.hid hG
        have HB := Lib.hid hb
        have HRB := Lib.hid hrb
        have HOW := Lib.hid hown
        clear hG hb hrb hown
        by_cases hlt : i < L.length
        · have hlt' : (i : Int) < (L.length : Int) := by omega
          obtain ⟨p, hp⟩ : ∃ p, L[i]? = some p := ⟨_, List.getElem?_eq_getElem hlt⟩
          obtain ⟨r0, r1⟩ := rc_at d L i p hp
          have c0 := (HOW.out.cellAt (i * 2) (by omega)).trans r0
          have c1 := (HOW.out.cellAt (i * 2 + 1) (by omega)).trans r1
          obtain ⟨ao, c, hps⟩ := ownsRow_slice (HR.out.each p (List.mem_of_getElem? hp))
          rw [hps] at c1
          have hcall := lfc_eq d ao p.2.length c wr
          have R0 := Lib.hid r0
          have R1 := Lib.hid r1
          have HPS := Lib.hid hps
          clear hp hps r0 r1
          go_wp2_with fail
          refine hcall.mono ?_
          rintro e w2 ⟨rfl, hb2⟩
          have hown2 := ownsRow_far HOW.out hb2
          have d0 := (hown2.cellAt (i * 2) (by omega)).trans R0.out
          have d1 := (hown2.cellAt (i * 2 + 1) (by omega)).trans R1.out
          rw [HPS.out] at d1
          have z := fun j => hown2.frozenAt j
          have HO2 := Lib.hid hown2
          have HB2 := Lib.hid (HB.out.trans (below_far hb2 HB.out.size))
          have HRB2 := Lib.hid (rb_far HRB.out hb2)
          clear hcall hb2 c0 c1 hown2
          go_wp2
          go_roundg (gk - 1)
          case measure => have := HG.out; omega
          case rel =>
            have s0 := (HO2.out.stored (i * 2) (.int .u8 d)).1
            rw [list_set_same R0.out] at s0
            have s1 := (s0.stored (i * 2 + 1) (.slice ao p.2.length c)).1
            rw [list_set_same (by rw [R1.out, HPS.out])] at s1
            refine ⟨i + 1, by have := HG.out; omega, by omega, by go_num, s1, (HB2.out.setCell (p := ⟨g', i * 2, none⟩) hg1' _).setCell (p := ⟨g', i * 2 + 1, none⟩) hg1' _, ?_⟩
            rw [Below.heap_setCell _ _ _ _ ?_, Below.heap_setCell _ _ _ _ ?_]
            · exact HRB2.out
            all_goals
              show w.heap.size ≠ g'
              intro e
              obtain ⟨cur, hcur⟩ : ∃ cur, w2.heap[g']? = some (.cells cur 67 (0, 0)) := by
                rcases HO2.out.2 with ⟨h, -⟩ | ⟨g2, cp2, cur, h, -, h2, -⟩
                · cases h
                · injection h with h
                  injection h with h
                  injection h with h
                  subst h
                  exact ⟨cur, h2⟩
              rw [← e, HRB2.out] at hcur
              injection hcur with hcur
              injection hcur with _ hcur
              exact absurd hcur (by decide)
        · have hlt' : ¬ (i : Int) < (L.length : Int) := by omega
          have c0 : wr.cell? ⟨w.heap.size, 0, none⟩ = some (.slice none 0 0) := by rw [Lib.cell_of_heap HRB.out]; rfl
          have c1 : wr.cell? ⟨w.heap.size, 1, none⟩ = some (.int .u8 0) := by rw [Lib.cell_of_heap HRB.out]; rfl
          have z := Lib.frozen_of_heap HRB.out
          go_wp2
          refine bodyPost_ret (res_cell rfl _ _ w.heap.size 41 #[_, _] (0, 0) _ rfl (rb_heap HRB.out) Tryz.underlying41 (by kernel_rfl)) rfl ?_
          have hrbs := Lib.heap_setCell_same (i := 0) HRB.out (.slice (some ⟨g', 0, none⟩) L.length cap')
          have hfar := (HB.out.setCell (p := ⟨w.heap.size, 0, none⟩) (Nat.le_refl _) (.slice (some ⟨g', 0, none⟩) L.length cap')).setCell (p := ⟨w.heap.size, 1, none⟩) (Nat.le_refl _) (.int .u8 d)
          exact ⟨⟨_, rfl, ownsRow_mono (ownsRow_set (ownsRow_set HOW.out HRB.out (by decide)) hrbs (by decide)) hX, fun p hp => ownsRow_far (HR.out.each p hp) hfar⟩, hfar⟩
end Go.Proofs.YthfjakbpeclfcaaGreatDoor

namespace Go.Proofs.YthfjakbpeclfcaaGreatDoor
open Go.RowKit Go

theorem cell_two {w : World} {g t : Nat} {a b : Value} (h : w.heap[g]? = some (.cells #[a, b] t (0, 0))) : w.cell? ⟨g, 0, none⟩ = some a ∧ w.cell? ⟨g, 1, none⟩ = some b := by
  constructor
  · rw [Lib.cell_of_heap h]; rfl
  · rw [Lib.cell_of_heap h]; rfl
set_option maxHeartbeats 4000000 in
set_option maxRecDepth 100000 in
theorem pfc_nil (d : Int) (w : World) :
    Calls Tryz.prog 43 #[.agg #[.slice none 0 0, .int .u8 0], .int .u8 d] w fun e w' => (∃ v', e = .returned (.agg #[v', .int .u8 d]) ∧ w'.ownsRow w.heap.size 67 2 v' 0 []) ∧ Below w.heap.size w w' := by
  obtain ⟨i0, hi, hz0, hz1, hz2⟩ := info_parts inf67
  have hA : ∀ w1, ((w.alloc (.cells #[.slice none 0 0, .int .u8 0] 41)).alloc (.cells #[.slice none 0 0, .int .u8 0] 41)).grownBy w1 none → w1.heap[w.heap.size]? = some (.cells #[.slice none 0 0, .int .u8 0] 41 (0, 0)) ∧ w1.heap[w.heap.size + 1]? = some (.cells #[.slice none 0 0, .int .u8 0] 41 (0, 0)) ∧ Below w.heap.size w w1 := fun w1 hg =>
    ⟨(hg.block _ (by simp; omega) (by simp)).trans (heap_alloc2_old w _ _), (hg.block _ (by simp) (by simp)).trans (heap_alloc2_new w _ _), (((Below.refl _ _).alloc (Nat.le_refl _) _).alloc (by simp) _).grown hg (by simp; omega) (fun k hk => by cases hk)⟩
  go_enter Tryz.func43, Tryz.ntmps43
  go_wp2_with (at_make; refine wpList_make_own _ rfl _ _ 38 rfl w.heap.size 67 i0 (.agg #[.int .u8 0, .slice none 0 0]) 2 Tryz.underlying38 hi hz0 hz1 _ _ _ 0 rfl rfl rfl (by rw [hz2]; omega) (by unfold maxLen; omega) (by simp; omega) ?_; intro w1 hown hg; have hA1 := hA w1 hg; have e0 := cell_two hA1.1; have e1 := cell_two hA1.2.1; have z := Lib.frozen_of_heap hA1.2.1; have H1 := Lib.hid hA1; clear hA1 hg hA)
  have HOW := Lib.hid hown
  clear hown
  go_loopg [14] 1 (fun G s14 wr => s14 = .int .i64 0 ∧ wr = w1)
  case atStart => exact ⟨rfl, rfl⟩
  obtain ⟨rfl, rfl⟩ := hrel
  go_wp2
  have hown := HOW.out
  rw [show ((w.alloc (Obj.cells #[Value.slice none 0 0, Value.int IntKind.u8 0] 41)).alloc (Obj.cells #[Value.slice none 0 0, Value.int IntKind.u8 0] 41)).heap.size = w.heap.size + 1 + 1 from by simp] at hown
  refine bodyPost_ret (res_cell rfl _ _ (w.heap.size + 1) 41 #[_, _] (0, 0) _ rfl (rb_heap H1.out.2.1) Tryz.underlying41 (by kernel_rfl)) rfl ?_
  have hrbs := Lib.heap_setCell_same (i := 0) H1.out.2.1 (.slice (some ⟨w.heap.size + 1 + 1, 0, none⟩) 0 0)
  exact ⟨⟨_, rfl, ownsRow_set (ownsRow_set hown H1.out.2.1 (by decide)) hrbs (by decide)⟩, (H1.out.2.2.setCell (p := ⟨w.heap.size + 1, 0, none⟩) (Nat.le_succ _) _).setCell (p := ⟨w.heap.size + 1, 1, none⟩) (Nat.le_succ _) _⟩
end Go.Proofs.YthfjakbpeclfcaaGreatDoor

namespace Go.Proofs.YthfjakbpeclfcaaGreatDoor
open Go.RowKit Go

def pgO (X : Nat) (rd : ByteArray → Option Nat) (d : Nat) (l : List ByteArray) (en : Ending) (w' : World) : Prop :=
  match npoly rd (dimW d) l with
  | some (xss, _) => ∃ ao c n L, en = .returned (.tuple #[.agg #[.slice ao n c, .int .u8 d], .nilIface]) ∧ n = L.length ∧ L.map (·.2) = xss ∧ Rows X d w' (.slice ao n c) L ∧ L.length ≤ l.length
  | none => ∃ v, en = .returned (.tuple #[.agg #[.slice none 0 0, .int .u8 0], v]) ∧ errV v
theorem pgO_some {X : Nat} {rd : ByteArray → Option Nat} {d : Nat} {l r : List ByteArray} {xss : List (List Nat)} {en : Ending} {w' : World} (h : npoly rd (dimW d) l = some (xss, r)) (h2 : ∃ ao c n L, en = .returned (.tuple #[.agg #[.slice ao n c, .int .u8 d], .nilIface]) ∧ n = L.length ∧ L.map (·.2) = xss ∧ Rows X d w' (.slice ao n c) L ∧ L.length ≤ l.length) : pgO X rd d l en w' := by unfold pgO; rw [h]; exact h2
theorem pgO_none {X : Nat} {rd : ByteArray → Option Nat} {d : Nat} {l : List ByteArray} {en : Ending} {w' : World} (h : npoly rd (dimW d) l = none) (h2 : ∃ v, en = .returned (.tuple #[.agg #[.slice none 0 0, .int .u8 0], v]) ∧ errV v) : pgO X rd d l en w' := by unfold pgO; rw [h]; exact h2
theorem Rows.setX {X d : Nat} {w : World} {v : Value} {L : List (Value × List Nat)} (h : Rows X d w v L) {g i : Nat} (hg : g < X) (u : Value) : Rows X d (w.setCell ⟨g, i, none⟩ u) v L := ⟨ownsRow_setCell_below h.own (a := ⟨g, i, none⟩) hg u, fun p hp => ownsRow_setCell_below (h.each p hp) (a := ⟨g, i, none⟩) hg u⟩
theorem Rows.mono {X Y d : Nat} {w : World} {v : Value} {L : List (Value × List Nat)} (h : Rows X d w v L) (hY : Y ≤ X) : Rows Y d w v L := ⟨ownsRow_mono h.own hY, fun p hp => ownsRow_mono (h.each p hp) hY⟩
set_option maxHeartbeats 4000000 in
set_option maxRecDepth 100000 in
theorem p23 (B P RD : Nat) (T : ByteArray) (rd : ByteArray → Option Nat) (l : List ByteArray) (w : World) (d : Nat) (hd : d < 4) (h : PS B P RD T l w) (hN : NumP B w) (hr : ∀ t, t ∈ l → NT t (rd t))
    (hP : P < w.heap.size) (hR : RD < w.heap.size) (hsz : l.length ≤ 100000) :
    Calls Tryz.prog 23 #[.pointer (some ⟨P, 0, none⟩), .int .u8 d] w fun en w' => pgO w.heap.size rd d l en w' ∧ Below B w w' := by
  have hBw := h.hs
  have hb0 : Below B w (w.alloc (.cells #[.slice none 0 0, .int .u8 0] 41)) := (Below.refl _ _).alloc hBw _
  have hA := heap_alloc_new w (.cells #[.slice none 0 0, .int .u8 0] 41)
  have hcl := p42 B P RD T rd l (w.alloc (.cells #[.slice none 0 0, .int .u8 0] 41)) d hd (h.far ((Below.refl _ _).alloc (Nat.le_refl _) _)) (hN.below hb0) hr (by simp; omega) (by simp; omega) hsz
  have hs1 : (w.alloc (.cells #[.slice none 0 0, .int .u8 0] 41)).heap.size = w.heap.size + 1 := by simp
  rw [hs1] at hcl
  have HA := Lib.hid hA
  have HB0 := Lib.hid hb0
  clear h hN hr hA hb0 hs1
  go_enter Tryz.func23, Tryz.ntmps23
  go_wp2_with fail
  refine hcl.mono ?_
  rintro e w2 ⟨h2, hf2⟩
  have hA2 : w2.heap[w.heap.size]? = some (.cells #[.slice none 0 0, .int .u8 0] 41 (0, 0)) := hf2.kept w.heap.size _ HA.out (by omega) (by omega) (fun cs fz e => by injection e with _ e _; exact absurd e (by decide))
  obtain ⟨a0, a1⟩ := cell_two hA2
  have z := Lib.frozen_of_heap hA2
  have HA2 := Lib.hid hA2
  have HB2 := Lib.hid (HB0.out.trans hf2.bel)
  clear hcl hf2 hA2
  cases hn : npoly rd (dimW d) l with
  | none =>
    unfold plOut at h2
    rw [hn] at h2
    obtain ⟨v, rfl, s, rfl⟩ := h2
    have HN := Lib.hid hn
    clear hn
    go_wp2
    refine bodyPost_ret (res_cell2 rfl _ _ w.heap.size 41 #[_, _] (0, 0) _ rfl (rb_heap HA2.out) Tryz.underlying41 (by kernel_rfl)) rfl ?_
    exact ⟨pgO_none HN.out ⟨_, rfl, _, rfl⟩, (HB2.out.setCell (p := ⟨w.heap.size, 0, none⟩) hBw _).setCell (p := ⟨w.heap.size, 1, none⟩) hBw _⟩
  | some z' =>
    obtain ⟨xss, q⟩ := z'
    unfold plOut at h2
    rw [hn] at h2
    obtain ⟨v, L, rfl, hm, hrw, -, hLl⟩ := h2
    obtain ⟨ao, c, rfl⟩ := ownsRow_slice hrw.own
    have HN := Lib.hid hn
    have HM := Lib.hid hm
    have HRW := Lib.hid hrw
    have hB2 : B ≤ w2.heap.size := Nat.le_trans hBw (by have := Lib.lt_of_heap HA2.out; omega)
    have hlt2 := Lib.lt_of_heap HA2.out
    clear hn hm hrw
    by_cases h0 : L.length = 0
    · have h0' : ((L.length : Int) == 0) = true := by rw [beq_iff_eq]; omega
      have hL0 : L = [] := List.length_eq_zero_iff.1 h0
      have hpf := pfc_nil d w2
      have HL0 := Lib.hid hL0
      clear hL0 h0
      generalize L.length = n at *
      go_wp2_with fail
      refine hpf.mono ?_
      rintro e w3 ⟨⟨v', rfl, k1⟩, hb3⟩
      obtain ⟨ao', c', rfl⟩ := ownsRow_slice k1
      have hA3 := rb_far HA2.out hb3
      clear a0 a1 z
      obtain ⟨a0, a1⟩ := cell_two hA3
      have z := Lib.frozen_of_heap hA3
      have HA3 := Lib.hid hA3
      have K1 := Lib.hid k1
      have HB3 := Lib.hid (HB2.out.trans (below_far hb3 hB2))
      clear hpf k1 hb3 hA3
      go_wp2
      refine bodyPost_ret (res_cell2 rfl _ _ w.heap.size 41 #[_, _] (0, 0) _ rfl (rb_heap HA3.out) Tryz.underlying41 (by kernel_rfl)) rfl ?_
      refine ⟨pgO_some HN.out ⟨ao', c', 0, [], rfl, rfl, by rw [← HM.out, HL0.out], ⟨?_, fun p hp => (by cases hp)⟩, Nat.zero_le _⟩, (HB3.out.setCell (p := ⟨w.heap.size, 0, none⟩) hBw _).setCell (p := ⟨w.heap.size, 1, none⟩) hBw _⟩
      exact ownsRow_mono (ownsRow_setCell_below (ownsRow_setCell_below K1.out (a := ⟨w.heap.size, 0, none⟩) hlt2 _) (a := ⟨w.heap.size, 1, none⟩) hlt2 _) (by omega)
    · have h0' : ((L.length : Int) == 0) = false := by rw [beq_eq_false_iff_ne]; omega
      have hnp := np_any (w.heap.size + 1) w2 d hd _ L (by omega) HRW.out (by omega) (by omega)
      have HL := Lib.hid hLl
      clear h0 hLl
      generalize hnn : L.length = n at *
      have HNN := Lib.hid hnn
      clear hnn
      go_wp2_with fail
      refine hnp.mono ?_
      rintro e w3 ⟨⟨v', rfl, k1⟩, hb3⟩
      obtain ⟨ao', c', hv'⟩ := ownsRow_slice k1.own
      rw [HNN.out] at hv'
      subst hv'
      have hA3 := rb_far HA2.out hb3
      clear a0 a1 z
      obtain ⟨a0, a1⟩ := cell_two hA3
      have z := Lib.frozen_of_heap hA3
      have HA3 := Lib.hid hA3
      have K1 := Lib.hid k1
      have HB3 := Lib.hid (HB2.out.trans (below_far hb3 hB2))
      clear hnp k1 hb3 hA3
      go_wp2
      refine bodyPost_ret (res_cell2 rfl _ _ w.heap.size 41 #[_, _] (0, 0) _ rfl (rb_heap HA3.out) Tryz.underlying41 (by kernel_rfl)) rfl ?_
      exact ⟨pgO_some HN.out ⟨ao', c', n, L, rfl, HNN.out.symm, HM.out, ((K1.out.setX (g := w.heap.size) (Nat.lt_succ_self _) _).setX (Nat.lt_succ_self _) _).mono (Nat.le_succ _), by rw [HNN.out]; exact HL.out⟩, (HB3.out.setCell (p := ⟨w.heap.size, 0, none⟩) hBw _).setCell (p := ⟨w.heap.size, 1, none⟩) hBw _⟩
end Go.Proofs.YthfjakbpeclfcaaGreatDoor
