/-
  The cells of a new parser.
  newWKTLexer and newParser.
  newParser.
-/
import Derived.Test.YthfjakbpeclfcaaGreatDoorGLz
import Derived.Test.YthfjakbpeclfcaaGreatDoorGLn
import Derived.Test.YthfjakbpeclfcaaGreatDoorGFo
import Derived.Great.BuildSlice
import Derived.Laws.CopyOwn
import Derived.Great.Ranges
namespace Go.Proofs.YthfjakbpeclfcaaGreatDoor
open Go.RowKit Go

/-- The fields of a scanner that was just made. -/
def f00 (T : ByteArray) : Flds := { T := T, buf := fun k => if k = 0 then 128 else 0, pos := 0, fin := 0, off := 0, line := 1, col := 0, lll := 0, lcl := 0, tp := -1, te := 0, ch := -2, err := .nilFunc, ec := 0, p1 := 0, p2 := 0, p3 := 0, pk := ByteArray.empty, tb := [], ri := 0, pr := -1 }
/-- The parser's cells, as newWKTLexer leaves them. -/
def lxc (RD : Nat) (i : Nat) : Option Value := if i < 1048 then ((setA (iniL RD) z96).setIfInBounds 1041 (.int .u64 28))[i]? else (z96.push (.string ByteArray.empty))[i]?
set_option maxRecDepth 100000 in
theorem lxc_buf (RD : Nat) : lxc RD 1033 = some (.slice none 0 0) ∧ lxc RD 1034 = some (.int .i64 0) ∧ lxc RD 1035 = some (.int .i8 0) := by
  have h := z96_top
  have h7 := h 7
  have h8 := h 8
  have h9 := h 9
  unfold lxc
  refine ⟨?_, ?_, ?_⟩
  all_goals rw [if_pos (by decide), Array.getElem?_setIfInBounds_ne (by decide), setA_ne _ _ (by intro x hx; simp [iniL] at hx; rcases hx with rfl | rfl | rfl | rfl | rfl | rfl | rfl | rfl | rfl | rfl | rfl | rfl | rfl | rfl | rfl | rfl <;> simp)]
  · exact h7
  · exact h8
  · exact h9
set_option maxRecDepth 100000 in
theorem lxc_at (RD : Nat) (T : ByteArray) (i : Nat) (hi : i < 1033 ∨ 1036 ≤ i) : lxc RD i = cellOf RD (f00 T) i := by
  have hs := z96_size
  have h0 := z96_0
  have hb := z96_buf
  have ht := z96_top
  unfold lxc
  generalize z96 = Z at *
  by_cases h1 : i < 1048
  · rw [if_pos h1]
    by_cases h2 : 2 ≤ i ∧ i < 1026
    · rw [Array.getElem?_setIfInBounds_ne (by omega), setA_ne _ _ (by intro x hx; simp [iniL] at hx; rcases hx with rfl | rfl | rfl | rfl | rfl | rfl | rfl | rfl | rfl | rfl | rfl | rfl | rfl | rfl | rfl | rfl <;> simp <;> omega)]
      obtain ⟨k, rfl⟩ : ∃ k, i = k + 1 := ⟨i - 1, by omega⟩
      rw [hb k (by omega)]
      unfold cellOf
      rw [if_neg (by omega), if_pos (by omega)]
      show _ = some (Value.int .u8 (if k + 1 - 1 = 0 then 128 else 0))
      rw [if_neg (by omega)]
    · have h11 := ht 11
      have h17 := ht 17
      have h18 := ht 18
      have h19 := ht 19
      have h21 := ht 21
      have : i = 0 ∨ i = 1 ∨ i = 1026 ∨ i = 1027 ∨ i = 1028 ∨ i = 1029 ∨ i = 1030 ∨ i = 1031 ∨ i = 1032 ∨ i = 1036 ∨ i = 1037 ∨ i = 1038 ∨ i = 1039 ∨ i = 1040 ∨ i = 1041 ∨ i = 1042 ∨ i = 1043 ∨ i = 1044 ∨ i = 1045 ∨ i = 1046 ∨ i = 1047 := by omega
      rcases this with rfl | rfl | rfl | rfl | rfl | rfl | rfl | rfl | rfl | rfl | rfl | rfl | rfl | rfl | rfl | rfl | rfl | rfl | rfl | rfl | rfl
      all_goals first
        | (simp [setA, iniL, hs]; rfl)
        | (rw [Array.getElem?_setIfInBounds_ne (by decide), setA_ne _ _ (by intro x hx; simp [iniL] at hx; rcases hx with rfl | rfl | rfl | rfl | rfl | rfl | rfl | rfl | rfl | rfl | rfl | rfl | rfl | rfl | rfl | rfl <;> simp)]; first | exact h11 | exact h17 | exact h18 | exact h19 | exact h21)
  · rw [if_neg h1]
    by_cases h3 : i = 1048
    · subst h3
      rw [Array.getElem?_push, if_pos hs.symm]
      rfl
    · rw [Array.getElem?_eq_none (by simp; omega)]
      unfold cellOf
      repeat rw [if_neg (by omega)]
theorem core_new {B P RD : Nat} {T : ByteArray} {w : World} {cs : Array Value} (h : w.heap[P]? = some (.cells cs 101 (0, 0))) (hcs : ∀ i : Nat, cs[i]? = lxc RD i) (hr : w.heap[RD]? = some (.cells #[.string T, .int .i64 0, .int .i64 (-1)] 134 (0, 0)))
    (hP : B ≤ P) (hR : B ≤ RD) (hne : RD ≠ P) : Core B P RD (f00 T) w := by
  refine ⟨LibA.zero_isBuffer hP (lr := 0) ⟨cs, h, ?_, ?_, ?_, fun i hi => ?_⟩, ?_, hR, hne, hr⟩
  · rw [hcs]; exact (lxc_buf RD).1
  · rw [hcs]; exact (lxc_buf RD).2.1
  · rw [hcs]; exact (lxc_buf RD).2.2
  · rw [hcs]; exact lxc_at RD T i (by omega)
  · have := Lib.lt_of_heap h
    omega
theorem ps_new {B P RD : Nat} {T : ByteArray} {w : World} {l : List ByteArray} (h : Core B P RD (f00 T) w) (hA : Asc T) (hU : NoU T) (hs : T.size ≤ 100000) (ht : Toks T 0 l) (hl : LxW B w) : PS B P RD T l w :=
  ⟨⟨0, ⟨f00 T, rfl, rfl, .inr ⟨rfl, rfl, hA, hU, hs, none, h, 0, 0, 0, 0, rfl, ⟨rfl, rfl, rfl, Nat.le_refl _, by decide, Nat.zero_le _, rfl, fun j hj => absurd hj (Nat.not_lt_zero j), rfl, .inl rfl⟩, rfl, Nat.le_refl _, rfl⟩⟩, ht⟩, hl⟩
end Go.Proofs.YthfjakbpeclfcaaGreatDoor

namespace Go.Proofs.YthfjakbpeclfcaaGreatDoor
open Go.RowKit Go

set_option maxHeartbeats 2000000 in
set_option maxRecDepth 100000 in
theorem lex_any (T : ByteArray) (w : World) :
    Calls Tryz.prog 41 #[.string T] w fun e w' => ∃ cs, e = .returned (.agg cs) ∧ cs.size = 1049 ∧ (∀ i, cs[i]? = if i < 1048 then ((setA (iniL (w.heap.size + 1 + 1)) z96).setIfInBounds 1041 (.int .u64 28))[i]? else (z96.push (.string ByteArray.empty))[i]?) ∧
      w'.heap[w.heap.size + 1 + 1]? = some (.cells #[.string T, .int .i64 0, .int .i64 (-1)] 134 (0, 0)) ∧ Below w.heap.size w w' := by
  obtain ⟨Y, hY⟩ : ∃ Y, Tryz.zeroCells98 = Y := ⟨_, rfl⟩
  obtain ⟨Z, hZ⟩ : ∃ Z, Tryz.zeroCells96 = Z := ⟨_, rfl⟩
  have s1 := Tryz.zeroCells96_size
  have s2 := Tryz.zeroCells98_size
  rw [hZ] at s1
  rw [hY] at s2
  have HY := Lib.hid hY
  have HZ := Lib.hid hZ
  clear hY hZ
  have hrd := rdr_any T ((w.alloc (.cells Y 98)).alloc (.cells Z 96))
  have h1 := heap_alloc3_0 w (.cells Y 98) (.cells Z 96) (.cells #[.string T, .int .i64 0, .int .i64 (-1)] 134)
  have h2 := heap_alloc3_1 w (.cells Y 98) (.cells Z 96) (.cells #[.string T, .int .i64 0, .int .i64 (-1)] 134)
  have h3 := heap_alloc3_2 w (.cells Y 98) (.cells Z 96) (.cells #[.string T, .int .i64 0, .int .i64 (-1)] 134)
  have hb0 : Below w.heap.size w (((w.alloc (.cells Y 98)).alloc (.cells Z 96)).alloc (.cells #[.string T, .int .i64 0, .int .i64 (-1)] 134)) :=
    (((Below.refl _ _).alloc (Nat.le_refl _) _).alloc (by simp) _).alloc (by simp; omega) _
  generalize hw3 : (((w.alloc (.cells Y 98)).alloc (.cells Z 96)).alloc (.cells #[.string T, .int .i64 0, .int .i64 (-1)] 134)) = W3 at *
  have hin := init_any (w.heap.size + 1) (w.heap.size + 1 + 1) W3 Z h2 s1
  have HW3 := Lib.hid hw3
  have hs12 : ((w.alloc (.cells Y 98)).alloc (.cells Z 96)).heap.size = w.heap.size + 1 + 1 := by simp
  rw [hs12] at hrd
  have HRD := Lib.hid hrd
  have HIN := Lib.hid hin
  have H1 := Lib.hid h1
  have H2 := Lib.hid h2
  have H3 := Lib.hid h3
  have HB0 := Lib.hid hb0
  clear hrd hin h1 h2 h3 hb0 hw3 hs12
  go_enter Tryz.func41, Tryz.ntmps41
  go_wp2_with fail
  rw [HY.out, HZ.out]
  refine HRD.out.mono ?_
  rintro e w1 ⟨rfl, rfl⟩
  go_wp2_with fail
  refine HIN.out.mono ?_
  rintro e w2 ⟨rfl, rfl⟩
  have k2 := sets_heap (iniL (w.heap.size + 1 + 1)) H2.out
  have k1 := ((sets_grown (w.heap.size + 1) (iniL (w.heap.size + 1 + 1)) w1).block w.heap.size (Lib.lt_of_heap H1.out) (by intro e; injection e with e; omega)).trans H1.out
  have k3 := ((sets_grown (w.heap.size + 1) (iniL (w.heap.size + 1 + 1)) w1).block (w.heap.size + 1 + 1) (Lib.lt_of_heap H3.out) (by intro e; injection e with e; omega)).trans H3.out
  have kb := HB0.out.trans ((Below.refl w.heap.size w1).grown (sets_grown (w.heap.size + 1) (iniL (w.heap.size + 1 + 1)) w1) HB0.out.size (fun j e => by injection e with e; omega))
  generalize sets (w.heap.size + 1) (iniL (w.heap.size + 1 + 1)) w1 = w2 at *
  have q0 := setA_size (iniL (w.heap.size + 1 + 1)) Z
  rw [s1] at q0
  generalize hA : setA (iniL (w.heap.size + 1 + 1)) Z = A at *
  have HAA := Lib.hid hA
  obtain ⟨v0, c0⟩ : ∃ v, w2.cell? ⟨w.heap.size + 1, 1041, none⟩ = some v := ⟨A[1041]'(by omega), by rw [Lib.cell_of_heap k2]; exact Array.getElem?_eq_getElem (by omega)⟩
  have z := Lib.frozen_of_heap k2
  have K1 := Lib.hid k1
  have K2 := Lib.hid k2
  have K3 := Lib.hid k3
  have KB := Lib.hid kb
  have SZ := Lib.hid s1
  have SY := Lib.hid s2
  have Q0 := Lib.hid q0
  clear k1 k2 k3 kb hA s1 s2 q0
  go_upto_region 4 with fail
  have hone : ∀ v ∈ A.setIfInBounds 1041 (.int .u64 28), v.oneCell' = true := by
    intro v hv
    rcases Array.mem_or_eq_of_mem_setIfInBounds hv with hv | rfl
    · rw [← HAA.out] at hv
      refine setA_one _ _ ?_ ?_ v hv
      · intro x hx
        simp [iniL] at hx
        rcases hx with rfl | rfl | rfl | rfl | rfl | rfl | rfl | rfl | rfl | rfl | rfl | rfl | rfl | rfl | rfl | rfl <;> rfl
      · intro x hx
        rw [← HZ.out, zc96] at hx
        exact z96_one x hx
    · rfl
  have hAs : (A.setIfInBounds 1041 (.int .u64 28)).size = 1048 := by rw [Array.size_setIfInBounds]; exact Q0.out
  have g2 := Lib.heap_setCell_same (i := 1041) K2.out (.int .u64 28)
  have g1 := (Below.heap_setCell w2 ⟨w.heap.size + 1, 1041, none⟩ (.int .u64 28) w.heap.size (by show w.heap.size ≠ w.heap.size + 1; omega)).trans K1.out
  have g3 := (Below.heap_setCell w2 ⟨w.heap.size + 1, 1041, none⟩ (.int .u64 28) (w.heap.size + 1 + 1) (by show w.heap.size + 1 + 1 ≠ w.heap.size + 1; omega)).trans K3.out
  have gb := KB.out.setCell (p := ⟨w.heap.size + 1, 1041, none⟩) (by show w.heap.size ≤ w.heap.size + 1; omega) (.int .u64 28)
  generalize w2.setCell ⟨w.heap.size + 1, 1041, none⟩ (.int .u64 28) = w3 at *
  have hAe : ∀ i : Nat, (A.setIfInBounds 1041 (.int .u64 28))[i]? = ((setA (iniL (w.heap.size + 1 + 1)) Z).setIfInBounds 1041 (.int .u64 28))[i]? := fun i => by rw [HAA.out]
  generalize hM : A.setIfInBounds 1041 (.int .u64 28) = M at *
  obtain ⟨i98, hi98, hz98⟩ : ∃ i, Tryz.prog.info? 98 = some i ∧ i.zero = some (.agg Y) := by
    have := Tryz.zeroValue98 w
    cases h : Tryz.prog.info? 98 with
    | none => simp [zeroValue, typeInfo, h] at this
    | some i =>
      cases h2 : i.zero with
      | none => simp [zeroValue, typeInfo, h, h2] at this
      | some v =>
        simp [zeroValue, typeInfo, h, h2] at this
        exact ⟨i, rfl, by rw [h2, this, HY.out]⟩
  obtain ⟨cs, b1, b2, b3⟩ := built_head (P := Tryz.prog) hi98 hz98 plc98 (.agg M) hAs (by rw [SY.out]; decide)
  have hY1 : ∀ v ∈ Y, v.oneCell' = true := by
    intro v hv
    rw [← HY.out, zc98] at hv
    rcases Array.mem_push.1 hv with hv | rfl
    · exact z96_one v hv
    · rfl
  have hcs1 : cs.all (·.oneCell') = true := by
    refine Array.all_eq_true_iff_forall_mem.2 fun v hv => ?_
    obtain ⟨k, hk, rfl⟩ := Array.mem_iff_getElem.1 hv
    have hk3 := b3 k
    rw [Array.getElem?_eq_getElem hk] at hk3
    split at hk3
    · exact hone _ (Array.mem_of_getElem? hk3.symm)
    · exact hY1 _ (Array.mem_of_getElem? hk3.symm)
  have hsz : cs.size = 1049 := b2.trans SY.out
  have i96 : (Tryz.prog.info? 96).map (·.size) = some M.size := by rw [hAs]; kernel_rfl
  have i98b : (Tryz.prog.info? 98).map (·.size) = some cs.size := by rw [hsz]; kernel_rfl
  go_cut [] (fun wx => Hid (wx = w3.setRow w.heap.size cs))
  case first =>
    refine wp_region_list ?_
    refine wpList_load_row rfl 96 (.tmp 3) rfl (w.heap.size + 1) rfl 96 M (0, 0) _ g2 Tryz.underlying96 rfl i96 ?_
    refine wpList_buildTo rfl 98 _ rfl (some 10) rfl cs (by simpa [Act.eval, Act.put, Array.setIfInBounds] using b1) ?_
    refine wpList_store_row rfl 98 (.tmp 2) (.tmp 10) rfl w.heap.size cs rfl rfl 98 Y g1 i98b (by rw [hsz]; exact SY.out) hcs1 ?_
    refine wpList_nil ?_
    simp [Act.put]
    rename_i J' K' k1 k2
    exact k2 _ _ (k1 _ _ (by first | exact ⟨_, _, _, _, _, _, _, rfl, Lib.hid rfl⟩ | exact ⟨_, _, _, _, _, _, _, Lib.hid rfl, rfl⟩))
  case rest =>
    have hcut := hcut.out
    subst hcut
    have r1 := setRow_heap w3 w.heap.size Y cs 98 (0, 0) g1
    have r3 := (setRow_other w3 w.heap.size (w.heap.size + 1 + 1) cs (by omega)).trans g3
    have rb := below_setRow gb (Nat.le_refl _) cs
    generalize w3.setRow w.heap.size cs = w4 at *
    have R1 := Lib.hid r1
    have R3 := Lib.hid r3
    have RB := Lib.hid rb
    have B3 := Lib.hid b3
    have AE := Lib.hid hAe
    have I98 := Lib.hid i98b
    have SC := Lib.hid hsz
    clear r1 r3 rb b3 hAe i98b b1 b2 hsz
    go_wp2
    refine bodyPost_ret (results_cell_row rfl _ _ w.heap.size 98 cs (0, 0) _ rfl R1.out Tryz.underlying98 rfl I98.out) rfl ?_
    refine ⟨cs, rfl, SC.out, fun i => ?_, R3.out, RB.out⟩
    rw [B3.out i]
    by_cases hi : i < 1048
    · rw [if_pos hi, if_pos hi, ← zc96, HZ.out, ← AE.out i]
      rfl
    · rw [if_neg hi, if_neg hi, ← zc98, HY.out]
end Go.Proofs.YthfjakbpeclfcaaGreatDoor

namespace Go.Proofs.YthfjakbpeclfcaaGreatDoor
open Go.RowKit Go

theorem LxW.up {B B' : Nat} {w : World} (h : LxW B w) (hB : B ≤ B') : LxW B' w := ⟨⟨by have := h.sc.hB; omega, h.sc.first, h.sc.eof⟩, h.ueof⟩
set_option maxHeartbeats 2000000 in
set_option maxRecDepth 100000 in
theorem np_new (B : Nat) (T : ByteArray) (l : List ByteArray) (w : World) (hA : Asc T) (hU : NoU T) (hs : T.size ≤ 100000) (ht : Toks T 0 l) (hl : LxW B w) (hB : B ≤ w.heap.size) :
    Calls Tryz.prog 22 #[.string T] w fun e w' => ∃ P RD, e = .returned (.pointer (some ⟨P, 0, none⟩)) ∧ PS w.heap.size P RD T l w' ∧ P < w'.heap.size ∧ RD < w'.heap.size ∧ Below w.heap.size w w' := by
  have hlx := lex_any T w
  have HT := Lib.hid ht
  have HL := Lib.hid hl
  have HA := Lib.hid hA
  have HU := Lib.hid hU
  clear ht hl hA hU
  go_enter Tryz.func22, Tryz.ntmps22
  go_wp2_with fail
  refine hlx.mono ?_
  rintro e w1 ⟨cs, rfl, hsz, hcs, hr, hb⟩
  have hz := z96_size
  obtain ⟨i101, hi101, hz101⟩ : ∃ i, Tryz.prog.info? 101 = some i ∧ i.zero = some (.agg Tryz.zeroCells101) := by
    have := Tryz.zeroValue101 w
    cases h : Tryz.prog.info? 101 with
    | none => simp [zeroValue, typeInfo, h] at this
    | some i =>
      cases h2 : i.zero with
      | none => simp [zeroValue, typeInfo, h, h2] at this
      | some v =>
        simp [zeroValue, typeInfo, h, h2] at this
        exact ⟨i, rfl, by rw [h2, this]⟩
  obtain ⟨cs2, b1, b2, b3⟩ := built_head (P := Tryz.prog) hi101 hz101 plc101 (.agg cs) hsz (by rw [Tryz.zeroCells101_size]; decide)
  have hcs2 : ∀ i : Nat, cs2[i]? = lxc (w.heap.size + 1 + 1) i := by
    intro i
    rw [b3 i]
    by_cases h : i < 1049
    · rw [if_pos h]
      show cs[i]? = _
      rw [hcs i]
      rfl
    · rw [if_neg h]
      unfold lxc
      rw [if_neg (by omega), Array.getElem?_eq_none (by rw [Tryz.zeroCells101_size]; omega), Array.getElem?_eq_none (by simp; omega)]
  have hnew := heap_alloc_new w1 (.cells cs2 101)
  have hr2 := (Below.heap_alloc w1 (.cells cs2 101) _ (Lib.lt_of_heap hr)).trans hr
  have hb2 := hb.alloc hb.size (.cells cs2 101)
  have hlt := Lib.lt_of_heap hr
  have hc := core_new (B := w.heap.size) hnew hcs2 hr2 hb.size (by omega) (by omega)
  have hps := ps_new hc HA.out HU.out hs HT.out ((HL.out.up hB).below hb2)
  have h1 := Lib.lt_of_heap hnew
  have h2 := Lib.lt_of_heap hr2
  have B1 := Lib.hid b1
  have HPS := Lib.hid hps
  have HB2 := Lib.hid hb2
  clear hcs hr hb hi101 hz101 b1 b2 b3 hcs2 hnew hr2 hb2 hc hps hz hsz
  rename_i K' k1
  refine k1 _ _ ?_
  refine wpList_buildTo rfl 101 _ rfl (some 5) rfl cs2 (by simpa [Act.eval, Act.put, Array.setIfInBounds] using B1.out) ?_
  refine Go.Great.wpList_boxTo rfl 101 (.tmp 5) rfl (some 6) rfl w1.heap.size rfl cs2 rfl ?_
  generalize w1.alloc (.cells cs2 101) = w2 at *
  go_wp2
  go_ret
  exact ⟨w1.heap.size, w.heap.size + 1 + 1, rfl, HPS.out, h1, h2, HB2.out⟩
end Go.Proofs.YthfjakbpeclfcaaGreatDoor
