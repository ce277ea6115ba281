/-
  The scanner in the parser's block: its cells, and what a store turns.
-/
import Derived.Test.YthfjakbpeclfcaaGreatDoorGShB
namespace Go.Proofs.YthfjakbpeclfcaaGreatDoor
open Go.RowKit Go

structure Flds where
  T : ByteArray
  buf : Nat → Int
  pos : Int
  fin : Int
  off : Int
  line : Int
  col : Int
  lll : Int
  lcl : Int
  tp : Int
  te : Int
  ch : Int
  err : Value
  ec : Int
  p1 : Int
  p2 : Int
  p3 : Int
  pk : ByteArray
  tb : List UInt8
  ri : Int
  pr : Int

def cellOf (RD : Nat) (f : Flds) (i : Nat) : Option Value :=
  if i = 0 then some (.iface 115 (.pointer (some ⟨RD, 0, none⟩)))
  else if i < 1026 then some (.int .u8 (f.buf (i - 1)))
  else if i = 1026 then some (.int .i64 f.pos)
  else if i = 1027 then some (.int .i64 f.fin)
  else if i = 1028 then some (.int .i64 f.off)
  else if i = 1029 then some (.int .i64 f.line)
  else if i = 1030 then some (.int .i64 f.col)
  else if i = 1031 then some (.int .i64 f.lll)
  else if i = 1032 then some (.int .i64 f.lcl)
  else if i = 1036 then some (.int .i64 f.tp)
  else if i = 1037 then some (.int .i64 f.te)
  else if i = 1038 then some (.int .i32 f.ch)
  else if i = 1039 then some f.err
  else if i = 1040 then some (.int .i64 f.ec)
  else if i = 1041 then some (.int .u64 28)
  else if i = 1042 then some (.int .u64 4294977024)
  else if i = 1043 then some .nilFunc
  else if i = 1044 then some (.string ByteArray.empty)
  else if i = 1045 then some (.int .i64 f.p1)
  else if i = 1046 then some (.int .i64 f.p2)
  else if i = 1047 then some (.int .i64 f.p3)
  else if i = 1048 then some (.string f.pk)
  else none

structure Core (B P RD : Nat) (f : Flds) (w : World) : Prop where
  b : LibA.IsBuffer 101 (cellOf RD f) 5 B P 1033 (Lib.byteCells f.tb) w
  hs : B ≤ w.heap.size
  hr : B ≤ RD
  ne : RD ≠ P
  r : w.heap[RD]? = some (.cells #[.string f.T, .int .i64 f.ri, .int .i64 f.pr] 134 (0, 0))

section
variable {B P RD : Nat} {f : Flds} {w : World}
theorem Core.at (h : Core B P RD f w) (i : Nat) (hi : i < 1033 ∨ 1036 ≤ i) : w.cell? ⟨P, i, none⟩ = cellOf RD f i := h.b.rest i hi
theorem Core.frz (h : Core B P RD f w) (i : Nat) : w.frozen? ⟨P, i, none⟩ = false := h.b.notFrozen i
theorem Core.rfz (h : Core B P RD f w) (i : Nat) : w.frozen? ⟨RD, i, none⟩ = false := Lib.frozen_of_heap h.r i
theorem Core.r0 (h : Core B P RD f w) : w.cell? ⟨RD, 0, none⟩ = some (.string f.T) := by rw [Lib.cell_of_heap h.r]; rfl
theorem Core.r1 (h : Core B P RD f w) : w.cell? ⟨RD, 1, none⟩ = some (.int .i64 f.ri) := by rw [Lib.cell_of_heap h.r]; rfl
theorem Core.r2 (h : Core B P RD f w) : w.cell? ⟨RD, 2, none⟩ = some (.int .i64 f.pr) := by rw [Lib.cell_of_heap h.r]; rfl
theorem Core.hP (h : Core B P RD f w) : B ≤ P := h.b.1
theorem Core.cbuf (h : Core B P RD f w) (k : Nat) (hk : k < 1025) : w.cell? ⟨P, k + 1, none⟩ = some (.int .u8 (f.buf k)) := by
  rw [h.at (k + 1) (.inl (by omega))]
  unfold cellOf
  rw [if_neg (by omega), if_pos (by omega)]
  rfl
theorem Core.drewN (h : Core B P RD f w) (n : Nat) : Core B P RD f (w.drewN n) := ⟨h.b.drewN n, h.hs, h.hr, h.ne, h.r⟩
theorem Core.put (h : Core B P RD f w) (i : Nat) (v : Value) (f' : Flds) (hi : i < 1033 ∨ 1036 ≤ i) (h2 : i < 1049) (hT : f'.T = f.T) (htb : f'.tb = f.tb) (hri : f'.ri = f.ri) (hpr : f'.pr = f.pr)
    (hf : (fun j => if j = i then some v else cellOf RD f j) = cellOf RD f') : Core B P RD f' (w.setCell ⟨P, i, none⟩ v) := by
  have hold : ∃ old, cellOf RD f i = some old := by
    by_cases h0 : i = 0
    · subst h0
      exact ⟨_, rfl⟩
    · by_cases h1 : i < 1026
      · unfold cellOf
        rw [if_neg h0, if_pos h1]
        exact ⟨_, rfl⟩
      · have : i = 1026 ∨ i = 1027 ∨ i = 1028 ∨ i = 1029 ∨ i = 1030 ∨ i = 1031 ∨ i = 1032 ∨ i = 1036 ∨ i = 1037 ∨ i = 1038 ∨ i = 1039 ∨ i = 1040 ∨ i = 1041 ∨ i = 1042 ∨ i = 1043 ∨ i = 1044 ∨ i = 1045 ∨ i = 1046 ∨ i = 1047 ∨ i = 1048 := by omega
        rcases this with rfl | rfl | rfl | rfl | rfl | rfl | rfl | rfl | rfl | rfl | rfl | rfl | rfl | rfl | rfl | rfl | rfl | rfl | rfl | rfl
        all_goals exact ⟨_, rfl⟩
  obtain ⟨old, hold⟩ := hold
  have hb := h.b.setOther i hi hold v
  rw [hf] at hb
  refine ⟨by rw [htb]; exact hb, by simpa [World.setCell] using h.hs, h.hr, h.ne, ?_⟩
  rw [Below.heap_setCell _ _ _ _ h.ne, h.r, hT, hri, hpr]
end
section
variable {B P RD : Nat} {f : Flds} {w : World}
theorem Core.c_pos (h : Core B P RD f w) : w.cell? ⟨P, 1026, none⟩ = some (.int .i64 f.pos) := h.at 1026 (by decide)
theorem Core.s_pos (h : Core B P RD f w) (x : Int) : Core B P RD { f with pos := x } (w.setCell ⟨P, 1026, none⟩ (.int .i64 x)) := by
  refine h.put 1026 _ _ (by decide) (by decide) rfl rfl rfl rfl ?_
  funext j
  by_cases hj : j = 1026
  · subst hj
    rfl
  · rw [if_neg hj]
    unfold cellOf
    simp only [if_neg hj]
theorem Core.c_fin (h : Core B P RD f w) : w.cell? ⟨P, 1027, none⟩ = some (.int .i64 f.fin) := h.at 1027 (by decide)
theorem Core.s_fin (h : Core B P RD f w) (x : Int) : Core B P RD { f with fin := x } (w.setCell ⟨P, 1027, none⟩ (.int .i64 x)) := by
  refine h.put 1027 _ _ (by decide) (by decide) rfl rfl rfl rfl ?_
  funext j
  by_cases hj : j = 1027
  · subst hj
    rfl
  · rw [if_neg hj]
    unfold cellOf
    simp only [if_neg hj]
theorem Core.c_off (h : Core B P RD f w) : w.cell? ⟨P, 1028, none⟩ = some (.int .i64 f.off) := h.at 1028 (by decide)
theorem Core.s_off (h : Core B P RD f w) (x : Int) : Core B P RD { f with off := x } (w.setCell ⟨P, 1028, none⟩ (.int .i64 x)) := by
  refine h.put 1028 _ _ (by decide) (by decide) rfl rfl rfl rfl ?_
  funext j
  by_cases hj : j = 1028
  · subst hj
    rfl
  · rw [if_neg hj]
    unfold cellOf
    simp only [if_neg hj]
theorem Core.c_line (h : Core B P RD f w) : w.cell? ⟨P, 1029, none⟩ = some (.int .i64 f.line) := h.at 1029 (by decide)
theorem Core.s_line (h : Core B P RD f w) (x : Int) : Core B P RD { f with line := x } (w.setCell ⟨P, 1029, none⟩ (.int .i64 x)) := by
  refine h.put 1029 _ _ (by decide) (by decide) rfl rfl rfl rfl ?_
  funext j
  by_cases hj : j = 1029
  · subst hj
    rfl
  · rw [if_neg hj]
    unfold cellOf
    simp only [if_neg hj]
theorem Core.c_col (h : Core B P RD f w) : w.cell? ⟨P, 1030, none⟩ = some (.int .i64 f.col) := h.at 1030 (by decide)
theorem Core.s_col (h : Core B P RD f w) (x : Int) : Core B P RD { f with col := x } (w.setCell ⟨P, 1030, none⟩ (.int .i64 x)) := by
  refine h.put 1030 _ _ (by decide) (by decide) rfl rfl rfl rfl ?_
  funext j
  by_cases hj : j = 1030
  · subst hj
    rfl
  · rw [if_neg hj]
    unfold cellOf
    simp only [if_neg hj]
theorem Core.c_lll (h : Core B P RD f w) : w.cell? ⟨P, 1031, none⟩ = some (.int .i64 f.lll) := h.at 1031 (by decide)
theorem Core.s_lll (h : Core B P RD f w) (x : Int) : Core B P RD { f with lll := x } (w.setCell ⟨P, 1031, none⟩ (.int .i64 x)) := by
  refine h.put 1031 _ _ (by decide) (by decide) rfl rfl rfl rfl ?_
  funext j
  by_cases hj : j = 1031
  · subst hj
    rfl
  · rw [if_neg hj]
    unfold cellOf
    simp only [if_neg hj]
theorem Core.c_lcl (h : Core B P RD f w) : w.cell? ⟨P, 1032, none⟩ = some (.int .i64 f.lcl) := h.at 1032 (by decide)
theorem Core.s_lcl (h : Core B P RD f w) (x : Int) : Core B P RD { f with lcl := x } (w.setCell ⟨P, 1032, none⟩ (.int .i64 x)) := by
  refine h.put 1032 _ _ (by decide) (by decide) rfl rfl rfl rfl ?_
  funext j
  by_cases hj : j = 1032
  · subst hj
    rfl
  · rw [if_neg hj]
    unfold cellOf
    simp only [if_neg hj]
theorem Core.c_tp (h : Core B P RD f w) : w.cell? ⟨P, 1036, none⟩ = some (.int .i64 f.tp) := h.at 1036 (by decide)
theorem Core.s_tp (h : Core B P RD f w) (x : Int) : Core B P RD { f with tp := x } (w.setCell ⟨P, 1036, none⟩ (.int .i64 x)) := by
  refine h.put 1036 _ _ (by decide) (by decide) rfl rfl rfl rfl ?_
  funext j
  by_cases hj : j = 1036
  · subst hj
    rfl
  · rw [if_neg hj]
    unfold cellOf
    simp only [if_neg hj]
theorem Core.c_te (h : Core B P RD f w) : w.cell? ⟨P, 1037, none⟩ = some (.int .i64 f.te) := h.at 1037 (by decide)
theorem Core.s_te (h : Core B P RD f w) (x : Int) : Core B P RD { f with te := x } (w.setCell ⟨P, 1037, none⟩ (.int .i64 x)) := by
  refine h.put 1037 _ _ (by decide) (by decide) rfl rfl rfl rfl ?_
  funext j
  by_cases hj : j = 1037
  · subst hj
    rfl
  · rw [if_neg hj]
    unfold cellOf
    simp only [if_neg hj]
theorem Core.c_ch (h : Core B P RD f w) : w.cell? ⟨P, 1038, none⟩ = some (.int .i32 f.ch) := h.at 1038 (by decide)
theorem Core.s_ch (h : Core B P RD f w) (x : Int) : Core B P RD { f with ch := x } (w.setCell ⟨P, 1038, none⟩ (.int .i32 x)) := by
  refine h.put 1038 _ _ (by decide) (by decide) rfl rfl rfl rfl ?_
  funext j
  by_cases hj : j = 1038
  · subst hj
    rfl
  · rw [if_neg hj]
    unfold cellOf
    simp only [if_neg hj]
theorem Core.c_err (h : Core B P RD f w) : w.cell? ⟨P, 1039, none⟩ = some (f.err) := h.at 1039 (by decide)
theorem Core.s_err (h : Core B P RD f w) (x : Value) : Core B P RD { f with err := x } (w.setCell ⟨P, 1039, none⟩ (x)) := by
  refine h.put 1039 _ _ (by decide) (by decide) rfl rfl rfl rfl ?_
  funext j
  by_cases hj : j = 1039
  · subst hj
    rfl
  · rw [if_neg hj]
    unfold cellOf
    simp only [if_neg hj]
theorem Core.c_ec (h : Core B P RD f w) : w.cell? ⟨P, 1040, none⟩ = some (.int .i64 f.ec) := h.at 1040 (by decide)
theorem Core.s_ec (h : Core B P RD f w) (x : Int) : Core B P RD { f with ec := x } (w.setCell ⟨P, 1040, none⟩ (.int .i64 x)) := by
  refine h.put 1040 _ _ (by decide) (by decide) rfl rfl rfl rfl ?_
  funext j
  by_cases hj : j = 1040
  · subst hj
    rfl
  · rw [if_neg hj]
    unfold cellOf
    simp only [if_neg hj]
theorem Core.c_p1 (h : Core B P RD f w) : w.cell? ⟨P, 1045, none⟩ = some (.int .i64 f.p1) := h.at 1045 (by decide)
theorem Core.s_p1 (h : Core B P RD f w) (x : Int) : Core B P RD { f with p1 := x } (w.setCell ⟨P, 1045, none⟩ (.int .i64 x)) := by
  refine h.put 1045 _ _ (by decide) (by decide) rfl rfl rfl rfl ?_
  funext j
  by_cases hj : j = 1045
  · subst hj
    rfl
  · rw [if_neg hj]
    unfold cellOf
    simp only [if_neg hj]
theorem Core.c_p2 (h : Core B P RD f w) : w.cell? ⟨P, 1046, none⟩ = some (.int .i64 f.p2) := h.at 1046 (by decide)
theorem Core.s_p2 (h : Core B P RD f w) (x : Int) : Core B P RD { f with p2 := x } (w.setCell ⟨P, 1046, none⟩ (.int .i64 x)) := by
  refine h.put 1046 _ _ (by decide) (by decide) rfl rfl rfl rfl ?_
  funext j
  by_cases hj : j = 1046
  · subst hj
    rfl
  · rw [if_neg hj]
    unfold cellOf
    simp only [if_neg hj]
theorem Core.c_p3 (h : Core B P RD f w) : w.cell? ⟨P, 1047, none⟩ = some (.int .i64 f.p3) := h.at 1047 (by decide)
theorem Core.s_p3 (h : Core B P RD f w) (x : Int) : Core B P RD { f with p3 := x } (w.setCell ⟨P, 1047, none⟩ (.int .i64 x)) := by
  refine h.put 1047 _ _ (by decide) (by decide) rfl rfl rfl rfl ?_
  funext j
  by_cases hj : j = 1047
  · subst hj
    rfl
  · rw [if_neg hj]
    unfold cellOf
    simp only [if_neg hj]
theorem Core.c_pk (h : Core B P RD f w) : w.cell? ⟨P, 1048, none⟩ = some (.string f.pk) := h.at 1048 (by decide)
theorem Core.s_pk (h : Core B P RD f w) (x : ByteArray) : Core B P RD { f with pk := x } (w.setCell ⟨P, 1048, none⟩ (.string x)) := by
  refine h.put 1048 _ _ (by decide) (by decide) rfl rfl rfl rfl ?_
  funext j
  by_cases hj : j = 1048
  · subst hj
    rfl
  · rw [if_neg hj]
    unfold cellOf
    simp only [if_neg hj]
theorem Core.c_mode (h : Core B P RD f w) : w.cell? ⟨P, 1041, none⟩ = some (.int .u64 28) := h.at 1041 (by decide)
theorem Core.c_ws (h : Core B P RD f w) : w.cell? ⟨P, 1042, none⟩ = some (.int .u64 4294977024) := h.at 1042 (by decide)
theorem Core.c_id (h : Core B P RD f w) : w.cell? ⟨P, 1043, none⟩ = some .nilFunc := h.at 1043 (by decide)
theorem Core.c_src (h : Core B P RD f w) : w.cell? ⟨P, 0, none⟩ = some (.iface 115 (.pointer (some ⟨RD, 0, none⟩))) := h.at 0 (by decide)
def updI (D : Nat → Int) (i : Nat) (x : Int) : Nat → Int := fun j => if j = i then x else D j
theorem Core.s_buf (h : Core B P RD f w) (k : Nat) (hk : k < 1025) (x : Int) : Core B P RD { f with buf := updI f.buf k x } (w.setCell ⟨P, k + 1, none⟩ (.int .u8 x)) := by
  refine h.put (k + 1) _ _ (.inl (by omega)) (by omega) rfl rfl rfl rfl ?_
  funext j
  by_cases hj : j = k + 1
  · subst hj
    unfold cellOf
    rw [if_pos rfl, if_neg (by omega), if_pos (by omega)]
    simp [updI]
  · rw [if_neg hj]
    unfold cellOf
    by_cases h0 : j = 0
    · subst h0
      rfl
    · rw [if_neg h0, if_neg h0]
      by_cases h1 : j < 1026
      · rw [if_pos h1, if_pos h1]
        show _ = some (Value.int IntKind.u8 (if j - 1 = k then x else f.buf (j - 1)))
        rw [if_neg (by omega)]
      · rw [if_neg h1, if_neg h1]
theorem Core.s_r1 (h : Core B P RD f w) (x : Int) : Core B P RD { f with ri := x } (w.setCell ⟨RD, 1, none⟩ (.int .i64 x)) := by
  obtain ⟨hB, v, lr, hbk, hown, hne⟩ := h.b
  have hkp : v.ownBlock ≠ some RD := by
    rcases hown.2 with ⟨rfl, _⟩ | ⟨g, cap, cur, rfl, hBg, hg, _⟩
    · simp [Value.ownBlock]
    · simp only [Value.ownBlock, ne_eq, Option.some.injEq]
      rintro rfl
      rw [h.r] at hg
      cases hg
  refine ⟨⟨hB, v, lr, hbk.of_heap (Below.heap_setCell _ _ _ _ (Ne.symm h.ne)), hown.kept (Lib.grownBy_setCell w RD 1 _) (Or.inr hkp), hne⟩, by simpa [World.setCell] using h.hs, h.hr, h.ne, ?_⟩
  exact Lib.heap_setCell_same (i := 1) h.r _
theorem Core.s_r2 (h : Core B P RD f w) (x : Int) : Core B P RD { f with pr := x } (w.setCell ⟨RD, 2, none⟩ (.int .i64 x)) := by
  obtain ⟨hB, v, lr, hbk, hown, hne⟩ := h.b
  have hkp : v.ownBlock ≠ some RD := by
    rcases hown.2 with ⟨rfl, _⟩ | ⟨g, cap, cur, rfl, hBg, hg, _⟩
    · simp [Value.ownBlock]
    · simp only [Value.ownBlock, ne_eq, Option.some.injEq]
      rintro rfl
      rw [h.r] at hg
      cases hg
  refine ⟨⟨hB, v, lr, hbk.of_heap (Below.heap_setCell _ _ _ _ (Ne.symm h.ne)), hown.kept (Lib.grownBy_setCell w RD 2 _) (Or.inr hkp), hne⟩, by simpa [World.setCell] using h.hs, h.hr, h.ne, ?_⟩
  exact Lib.heap_setCell_same (i := 2) h.r _
theorem Core.facts (h : Core B P RD f w) : w.cell? ⟨P, 1026, none⟩ = some (.int .i64 f.pos) ∧ w.cell? ⟨P, 1027, none⟩ = some (.int .i64 f.fin) ∧ w.cell? ⟨P, 1028, none⟩ = some (.int .i64 f.off) ∧
    w.cell? ⟨P, 1029, none⟩ = some (.int .i64 f.line) ∧ w.cell? ⟨P, 1030, none⟩ = some (.int .i64 f.col) ∧ w.cell? ⟨P, 1031, none⟩ = some (.int .i64 f.lll) ∧ w.cell? ⟨P, 1032, none⟩ = some (.int .i64 f.lcl) ∧
    w.cell? ⟨P, 1036, none⟩ = some (.int .i64 f.tp) ∧ w.cell? ⟨P, 1037, none⟩ = some (.int .i64 f.te) ∧ w.cell? ⟨P, 1038, none⟩ = some (.int .i32 f.ch) ∧ ∀ i, w.frozen? ⟨P, i, none⟩ = false :=
  ⟨h.c_pos, h.c_fin, h.c_off, h.c_line, h.c_col, h.c_lll, h.c_lcl, h.c_tp, h.c_te, h.c_ch, h.frz⟩
end

/-- What the scanner may turn: its own block, its reader's, and rows of bytes that are not older than B. -/
structure Fr (B P RD : Nat) (w w' : World) : Prop where
  bel : Below B w w'
  kept : ∀ k x, w.heap[k]? = some x → k ≠ P → k ≠ RD → (∀ cs fz, x ≠ .cells cs 5 fz) → w'.heap[k]? = some x
section
variable {B P RD : Nat} {w w1 w2 : World}
theorem Fr.refl : Fr B P RD w w := ⟨Below.refl B w, fun _ _ h _ _ _ => h⟩
theorem Fr.trans (h : Fr B P RD w w1) (k : Fr B P RD w1 w2) : Fr B P RD w w2 := ⟨h.bel.trans k.bel, fun i x a b c d => k.kept i x (h.kept i x a b c d) b c d⟩
theorem Fr.sP (h : Fr B P RD w w1) (hP : B ≤ P) (i : Nat) (v : Value) : Fr B P RD w (w1.setCell ⟨P, i, none⟩ v) :=
  ⟨h.bel.setCell (p := ⟨P, i, none⟩) hP v, fun k x a b c d => (Below.heap_setCell _ _ _ _ b).trans (h.kept k x a b c d)⟩
theorem Fr.sR (h : Fr B P RD w w1) (hR : B ≤ RD) (i : Nat) (v : Value) : Fr B P RD w (w1.setCell ⟨RD, i, none⟩ v) :=
  ⟨h.bel.setCell (p := ⟨RD, i, none⟩) hR v, fun k x a b c d => (Below.heap_setCell _ _ _ _ c).trans (h.kept k x a b c d)⟩
theorem Fr.drewN (h : Fr B P RD w w1) (n : Nat) : Fr B P RD w (w1.drewN n) := ⟨h.bel.trans ⟨rfl, rfl, rfl, Nat.le_refl _, fun _ _ => rfl⟩, h.kept⟩
theorem Fr.drew (h : Fr B P RD w w1) : Fr B P RD w w1.drew := h.drewN 1
theorem Fr.sPs (hP : B ≤ P) : ∀ (vs : List Value) (i : Nat) (w1 : World), Fr B P RD w w1 → Fr B P RD w (w1.setCells P i vs)
  | [], _, _, h => h
  | v :: r, i, _, h => Fr.sPs hP r (i + 1) _ (h.sP hP i v)
theorem Fr.buf (h : Fr B P RD w w1) (hb : Below B w1 w2) (ho : Lib.OthersKept 5 (some P) w1 w2) : Fr B P RD w w2 :=
  ⟨h.bel.trans hb, fun k x a b c d => ho k x (h.kept k x a b c d) (fun e => b (Option.some.inj e)) d⟩
end
end Go.Proofs.YthfjakbpeclfcaaGreatDoor
