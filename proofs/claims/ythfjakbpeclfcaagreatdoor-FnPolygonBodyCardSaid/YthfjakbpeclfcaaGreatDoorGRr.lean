/-
  The reference's reader: next, take, word.
  The reference's ReadNumber.
-/
import Derived.Test.YthfjakbpeclfcaaGreatDoorGLa
import Derived.Test.YthfjakbpeclfcaaGreatDoorGGp
import Derived.Test.YthfjakbpeclfcaaGreatDoorGLb
namespace Go.Proofs.YthfjakbpeclfcaaGreatDoor
open Go.RowKit Go

/-- The reader in block Q, ahead of the tokens r; all of them lie in block G. -/
structure RdS (Q G X cp : Nat) (all r : List (Nat × ByteArray)) (bad : Bool) (w : World) : Prop where
  pre : ∃ pre, all = pre ++ r
  q : ∃ ao c, w.heap[Q]? = some (.cells #[.slice ao r.length c, .bool bad] 54 (0, 0)) ∧ r.length ≤ c ∧ (r ≠ [] → ao = some ⟨G, (all.length - r.length) * 2, none⟩)
  g : w.ownsRow X 70 2 (.slice (some ⟨G, 0, none⟩) all.length cp) all.length (tkc all)
def nk (r : List (Nat × ByteArray)) (bad : Bool) : Nat := match r with
  | [] => 0
  | t :: _ => if bad then 0 else t.1
section
variable {Q G X cp : Nat} {all r : List (Nat × ByteArray)} {t : Nat × ByteArray} {bad : Bool} {w w' : World}
theorem RdS.cells (h : RdS Q G X cp all (t :: r) bad w) : w.cell? ⟨G, (all.length - (t :: r).length) * 2, none⟩ = some (.int .u8 t.1) ∧ w.cell? ⟨G, (all.length - (t :: r).length) * 2 + 1, none⟩ = some (.string t.2) := by
  obtain ⟨pre, rfl⟩ := h.pre
  have e : (pre ++ t :: r).length - (t :: r).length = pre.length := by simp
  rw [e]
  have ht : (pre ++ t :: r)[pre.length]? = some t := by simp
  obtain ⟨r0, r1⟩ := tkc_at _ _ t ht
  have hlt : pre.length < (pre ++ t :: r).length := by simp
  exact ⟨(h.g.cellAt (pre.length * 2) (by omega)).trans r0, (h.g.cellAt (pre.length * 2 + 1) (by omega)).trans r1⟩
theorem RdS.far (h : RdS Q G X cp all r bad w) (hb : Below w.heap.size w w') : RdS Q G X cp all r bad w' := by
  obtain ⟨ao, c, h1, h2⟩ := h.q
  exact ⟨h.pre, ⟨ao, c, rb_far h1 hb, h2⟩, ownsRow_far h.g hb⟩
theorem RdS.lt (h : RdS Q G X cp all r bad w) : Q < w.heap.size := by
  obtain ⟨ao, c, h1, h2⟩ := h.q
  exact Lib.lt_of_heap h1
theorem RdS.setBad (h : RdS Q G X cp all r bad w) : RdS Q G X cp all r true (w.setCell ⟨Q, 1, none⟩ (.bool true)) := by
  obtain ⟨ao, c, h1, h2⟩ := h.q
  exact ⟨h.pre, ⟨ao, c, Lib.heap_setCell_same (i := 1) h1 _, h2⟩, ownsRow_set h.g h1 (by decide)⟩
theorem RdS.setTl (h : RdS Q G X cp all (t :: r) bad w) (ao : Option Addr) (c : Nat) (hc : r.length ≤ c) (ha : r ≠ [] → ao = some ⟨G, (all.length - r.length) * 2, none⟩) : RdS Q G X cp all r bad (w.setCell ⟨Q, 0, none⟩ (.slice ao r.length c)) := by
  obtain ⟨ao', c', h1, h2⟩ := h.q
  obtain ⟨pre, e⟩ := h.pre
  exact ⟨⟨pre ++ [t], by rw [e]; simp⟩, ⟨ao, c, Lib.heap_setCell_same (i := 0) h1 _, hc, ha⟩, ownsRow_set h.g h1 (by decide)⟩
end
theorem below_grown {w w' : World} (hb : Below w.heap.size w w') (row : Option Nat) : w.grownBy w' row := ⟨hb.os, hb.tape, hb.output, hb.size, fun k hk _ => hb.block k hk⟩

set_option maxHeartbeats 1000000 in
set_option maxRecDepth 100000 in
theorem rnext (Q G X cp : Nat) (all r : List (Nat × ByteArray)) (bad : Bool) (w : World) (h : RdS Q G X cp all r bad w) :
    Calls Tryz.prog 50 #[.pointer (some ⟨Q, 0, none⟩)] w fun e w' => e = .returned (.int .u8 (nk r bad)) ∧ w' = w := by
  obtain ⟨ao, c, h1, h2, h3⟩ := h.q
  obtain ⟨c0, c1⟩ := cell_two h1
  have H := Lib.hid h
  clear h h1
  cases r with
  | nil =>
    clear h3
    go_enter Tryz.func50, Tryz.ntmps50
    go_wp2
    go_ret
    exact ⟨rfl, rfl⟩
  | cons t r =>
    cases bad with
    | true =>
      clear h3
      go_enter Tryz.func50, Tryz.ntmps50
      go_wp2
      go_ret
      exact ⟨rfl, rfl⟩
    | false =>
      obtain ⟨d0, d1⟩ := H.out.cells
      have h3 := h3 (by simp)
      subst h3
      have hl : ((t :: r).length : Int) = (r.length : Int) + 1 := by simp
      have hne : (((t :: r).length : Int) == 0) = false := by simp; omega
      have hpos : (0 : Int) < ((t :: r).length : Int) := by omega
      generalize (t :: r).length = n at *
      generalize (all.length - n) * 2 = o at *
      clear hl
      go_enter Tryz.func50, Tryz.ntmps50
      go_wp2
      go_ret
      exact ⟨rfl, rfl⟩

/-- What taking one token of a kind leaves. -/
def tkR (Q G X cp : Nat) (all r : List (Nat × ByteArray)) (bad : Bool) (k : Nat) (e : Ending) (w' : World) : Prop :=
  match r with
  | [] => e = .returned (.string ByteArray.empty) ∧ RdS Q G X cp all [] true w'
  | t :: q => (bad = false ∧ t.1 = k ∧ e = .returned (.string t.2) ∧ RdS Q G X cp all q false w') ∨ ((bad = true ∨ t.1 ≠ k) ∧ e = .returned (.string ByteArray.empty) ∧ RdS Q G X cp all (t :: q) true w')
set_option maxHeartbeats 1000000 in
set_option maxRecDepth 100000 in
theorem rtake (Q G X cp : Nat) (all r : List (Nat × ByteArray)) (bad : Bool) (k : Nat) (hk0 : k ≠ 0) (w : World) (h : RdS Q G X cp all r bad w) :
    Calls Tryz.prog 35 #[.pointer (some ⟨Q, 0, none⟩), .int .u8 k] w fun e w' => tkR Q G X cp all r bad k e w' ∧ w.grownBy w' (some Q) := by
  have hn := rnext Q G X cp all r bad w h
  obtain ⟨ao, c, h1, h2, h3⟩ := h.q
  obtain ⟨c0, c1⟩ := cell_two h1
  have z := Lib.frozen_of_heap h1
  have H := Lib.hid h
  have hgs := Lib.hid (Lib.grownBy_setCell w Q 1 (.bool true))
  by_cases hg : nk r bad = k
  · have hne : ((nk r bad : Int) != (k : Int)) = false := by rw [bne_eq_false_iff_eq]; omega
    cases r with
    | nil => exact absurd hg.symm hk0
    | cons t r =>
      have hbf : bad = false := by
        cases bad with
        | false => rfl
        | true => exact absurd hg.symm hk0
      subst hbf
      obtain ⟨d0, d1⟩ := H.out.cells
      have h3 := h3 (by simp)
      subst h3
      have HTL := Lib.hid (fun ao c hc ha => (H.out.setTl (ao := ao) (c := c) hc ha))
      have HK := Lib.hid hg
      have hl : (t :: r).length = r.length + 1 := rfl
      have hl2 : ((t :: r).length : Int) = (r.length : Int) + 1 := by simp
      have hpos : (0 : Int) < ((t :: r).length : Int) := by omega
      have hpos1 : (1 : Int) ≤ ((t :: r).length : Int) := by omega
      have hc1 : ((t :: r).length : Int) ≤ (c : Int) := by omega
      have ho : (all.length - r.length) * 2 = (all.length - (t :: r).length) * 2 + 2 := by
        obtain ⟨pre, e⟩ := H.out.pre
        rw [e]
        simp
        omega
      have HO := Lib.hid ho
      clear h h1 hg ho
      generalize hnn : (t :: r).length = n at *
      generalize (all.length - n) * 2 = o at *
      have hfin : ∀ ao c', r.length ≤ c' → (r ≠ [] → ao = some ⟨G, o + 2, none⟩) → tkR Q G X cp all (t :: r) false k (.returned (.string t.2)) (w.setCell ⟨Q, 0, none⟩ (.slice ao r.length c')) := by
        intro ao c' hc ha
        refine .inl ⟨rfl, HK.out, rfl, HTL.out ao c' hc (fun hne => ?_)⟩
        rw [HO.out]
        exact ha hne
      have HF := Lib.hid hfin
      have HG := Lib.hid (fun v => Lib.grownBy_setCell w Q 0 v)
      clear hfin
      by_cases hc : c = 1
      · have hr0 : r = [] := List.length_eq_zero_iff.1 (by omega)
        have HR := Lib.hid hr0
        clear hr0
        go_enter Tryz.func35, Tryz.ntmps35
        go_wp2_with fail
        refine hn.mono ?_
        rintro e w' ⟨rfl, rfl⟩
        go_wp2
        go_ret
        exact ⟨HF.out _ _ (by omega) (fun h => absurd HR.out h), HG.out _⟩
      · go_enter Tryz.func35, Tryz.ntmps35
        go_wp2_with fail
        refine hn.mono ?_
        rintro e w' ⟨rfl, rfl⟩
        go_wp2
        go_ret
        exact ⟨HF.out _ _ (by omega) (fun _ => rfl), HG.out _⟩
  · have hne : ((nk r bad : Int) != (k : Int)) = true := by rw [bne_iff_ne]; omega
    have hfin : ∀ w', RdS Q G X cp all r true w' → tkR Q G X cp all r bad k (.returned (.string ByteArray.empty)) w' := by
      intro w' hw
      cases r with
      | nil => exact ⟨rfl, hw⟩
      | cons t r =>
        refine .inr ⟨?_, rfl, hw⟩
        cases bad with
        | true => exact .inl rfl
        | false => exact .inr hg
    have HF := Lib.hid (hfin _ h.setBad)
    clear h h1 h2 h3 hg hfin
    generalize nk r bad = nn at *
    go_enter Tryz.func35, Tryz.ntmps35
    go_wp2_with fail
    refine hn.mono ?_
    rintro e w' ⟨rfl, rfl⟩
    go_wp2
    go_ret
    exact ⟨HF.out, hgs.out⟩

/-- What asking for one word leaves. -/
def wdR (Q G X cp : Nat) (all r : List (Nat × ByteArray)) (bad : Bool) (s : ByteArray) (e : Ending) (w w' : World) : Prop :=
  (∃ t q, r = t :: q ∧ bad = false ∧ t.1 = 97 ∧ t.2 = s ∧ e = .returned (.bool true) ∧ RdS Q G X cp all q false w') ∨
  ((∀ t q, r = t :: q → bad = false → t.1 = 97 → t.2 ≠ s) ∧ e = .returned (.bool false) ∧ w' = w)
set_option maxHeartbeats 1000000 in
set_option maxRecDepth 100000 in
theorem rword (Q G X cp : Nat) (all r : List (Nat × ByteArray)) (bad : Bool) (s : ByteArray) (w : World) (h : RdS Q G X cp all r bad w) :
    Calls Tryz.prog 37 #[.pointer (some ⟨Q, 0, none⟩), .string s] w fun e w' => wdR Q G X cp all r bad s e w w' ∧ w.grownBy w' (some Q) := by
  have hn := rnext Q G X cp all r bad w h
  obtain ⟨ao, c, h1, h2, h3⟩ := h.q
  obtain ⟨c0, c1⟩ := cell_two h1
  have z := Lib.frozen_of_heap h1
  have H := Lib.hid h
  by_cases hg : nk r bad = 97
  · have hne : ((nk r bad : Int) == 97) = true := by simp; omega
    cases r with
    | nil => exact absurd (show 0 = 97 from hg) (by decide)
    | cons t r =>
      have hbf : bad = false := by
        cases bad with
        | false => rfl
        | true => exact absurd (show 0 = 97 from hg) (by decide)
      subst hbf
      obtain ⟨d0, d1⟩ := H.out.cells
      have h3 := h3 (by simp)
      subst h3
      have HTL := Lib.hid (fun ao c hc ha => (H.out.setTl (ao := ao) (c := c) hc ha))
      have HK := Lib.hid hg
      have hl : (t :: r).length = r.length + 1 := rfl
      have hl2 : ((t :: r).length : Int) = (r.length : Int) + 1 := by simp
      have hpos : (0 : Int) < ((t :: r).length : Int) := by omega
      have hpos1 : (1 : Int) ≤ ((t :: r).length : Int) := by omega
      have hc1 : ((t :: r).length : Int) ≤ (c : Int) := by omega
      have ho : (all.length - r.length) * 2 = (all.length - (t :: r).length) * 2 + 2 := by
        obtain ⟨pre, e⟩ := H.out.pre
        rw [e]
        simp
        omega
      have HO := Lib.hid ho
      clear h h1 hg ho
      generalize hnn : (t :: r).length = n at *
      generalize (all.length - n) * 2 = o at *
      have HG := Lib.hid (fun v => Lib.grownBy_setCell w Q 0 v)
      obtain ⟨kd, tx⟩ := t
      by_cases hs : tx = s
      · have hs' : (tx.toList == s.toList) = true := by rw [hs]; exact beq_self_eq_true _
        have hfin : ∀ ao c', r.length ≤ c' → (r ≠ [] → ao = some ⟨G, o + 2, none⟩) → wdR Q G X cp all ((kd, tx) :: r) false s (.returned (.bool true)) w (w.setCell ⟨Q, 0, none⟩ (.slice ao r.length c')) := by
          intro ao c' hc ha
          refine .inl ⟨_, _, rfl, rfl, HK.out, hs, rfl, HTL.out ao c' hc (fun hne => ?_)⟩
          rw [HO.out]
          exact ha hne
        have HF := Lib.hid hfin
        clear hfin hs
        by_cases hc : c = 1
        · have hr0 : r = [] := List.length_eq_zero_iff.1 (by omega)
          have HR := Lib.hid hr0
          clear hr0
          go_enter Tryz.func37, Tryz.ntmps37
          go_wp2_with fail
          refine hn.mono ?_
          rintro e w' ⟨rfl, rfl⟩
          go_wp2
          go_ret
          exact ⟨HF.out _ _ (by omega) (fun h => absurd HR.out h), HG.out _⟩
        · go_enter Tryz.func37, Tryz.ntmps37
          go_wp2_with fail
          refine hn.mono ?_
          rintro e w' ⟨rfl, rfl⟩
          go_wp2
          go_ret
          exact ⟨HF.out _ _ (by omega) (fun _ => rfl), HG.out _⟩
      · have hs' : (tx.toList == s.toList) = false := by
          rw [beq_eq_false_iff_ne, ByteArray.toList_eq, ByteArray.toList_eq]
          exact fun e => hs (Go.WideShapes.bytes_inj e)
        have hfin : wdR Q G X cp all ((kd, tx) :: r) false s (.returned (.bool false)) w w := by
          refine .inr ⟨?_, rfl, rfl⟩
          intro t q e _ _
          injection e with e _
          rw [← e]
          exact hs
        have HF := Lib.hid hfin
        clear hfin hs
        go_enter Tryz.func37, Tryz.ntmps37
        go_wp2_with fail
        refine hn.mono ?_
        rintro e w' ⟨rfl, hw⟩
        have hw := hw.symm
        subst hw
        go_wp2
        go_ret
        exact ⟨HF.out, World.grownBy.refl _ _⟩
  · have hne : ((nk r bad : Int) == 97) = false := by simp; omega
    have hfin : wdR Q G X cp all r bad s (.returned (.bool false)) w w := by
      refine .inr ⟨?_, rfl, rfl⟩
      intro t q e hb h97
      subst e hb
      exact absurd h97 hg
    have HF := Lib.hid hfin
    clear h h1 h2 h3 hg hfin
    generalize nk r bad = nn at *
    go_enter Tryz.func37, Tryz.ntmps37
    go_wp2_with fail
    refine hn.mono ?_
    rintro e w' ⟨rfl, hw⟩
    have hw := hw.symm
    subst hw
    go_wp2
    go_ret
    exact ⟨HF.out, World.grownBy.refl _ _⟩
end Go.Proofs.YthfjakbpeclfcaaGreatDoor

namespace Go.Proofs.YthfjakbpeclfcaaGreatDoor
open Go.RowKit Go

def rnO (e : Ending) (f : Nat) (ok : Bool) : Prop := e = .returned (.tuple #[.float .f64 f, .bool ok])
set_option maxHeartbeats 1000000 in
set_option maxRecDepth 100000 in
theorem rn_num (B : Nat) (w : World) (S : ByteArray) (ng : Bool) (M E : List UInt8) (x : Int) (hW : NumP B w) (hl : S.data.toList = (if ng then [45] else []) ++ (M ++ E)) (hM : okM false M)
    (hg : (M.foldl rStep rs0).dg = true) (hE : ExpIs E x) (hsz : S.size ≤ 100000) :
    Calls Tryz.prog 64 #[.string S] w fun e w' => ((atV M x).2 = .nilIface ∧ rnO e (sg ng (atV M x).1) true ∨ (atV M x).2 = .iface 162 (.int .i64 1) ∧ ∃ f, rnO e f false) ∧ Below w.heap.size w w' := by
  have hp := parse_num B w S ng M E x hW.num hW.er hl hM hg hE hsz
  clear hl hM hg hE hW
  generalize atV M x = av at *
  go_enter Tryz.func64, Tryz.ntmps64
  go_wp2_with fail
  refine hp.mono ?_
  rintro e w1 ⟨er, rfl, ho, hb⟩
  have HB := Lib.hid hb
  clear hp hb
  rcases ho with ⟨h1, rfl⟩ | ⟨h1, h2⟩
  · have H1 := Lib.hid h1
    clear h1
    go_wp2
    go_quiet (fail)
    go_wp2
    refine bodyPost_ret (results_tmp2 rfl _ _ _) rfl ?_
    exact ⟨.inl ⟨H1.out, rfl⟩, HB.out.trans ⟨rfl, rfl, rfl, Nat.le_refl _, fun _ _ => rfl⟩⟩
  · obtain ⟨N, a, o, t, rfl, -⟩ := h2
    have H1 := Lib.hid h1
    clear h1
    go_wp2
    go_quiet (fail)
    go_wp2
    refine bodyPost_ret (results_tmp2 rfl _ _ _) rfl ?_
    exact ⟨.inr ⟨H1.out, _, rfl⟩, HB.out.trans ⟨rfl, rfl, rfl, Nat.le_refl _, fun _ _ => rfl⟩⟩
set_option maxHeartbeats 1000000 in
set_option maxRecDepth 100000 in
theorem rn_bad (B : Nat) (w : World) (S : ByteArray) (h : BadS S) (hW : NumP B w) (hsz : S.size ≤ 100000) :
    Calls Tryz.prog 64 #[.string S] w fun e w' => (∃ f ok, rnO e f ok) ∧ Below w.heap.size w w' := by
  have hp := parse_bad B w S h hsz hW.er hW.num.hs
  clear h hW
  go_enter Tryz.func64, Tryz.ntmps64
  go_wp2_with fail
  refine hp.mono ?_
  rintro e w1 ⟨⟨f, er, rfl, ho⟩, hb⟩
  have HB := Lib.hid hb
  clear hp hb
  rcases ho with ⟨rfl, -⟩ | ho
  · go_wp2
    go_quiet (fail)
    go_wp2
    refine bodyPost_ret (results_tmp2 rfl _ _ _) rfl ?_
    exact ⟨⟨_, _, rfl⟩, HB.out.trans ⟨rfl, rfl, rfl, Nat.le_refl _, fun _ _ => rfl⟩⟩
  · obtain ⟨N, a, o, t, rfl, -⟩ := ho
    go_wp2
    go_quiet (fail)
    go_wp2
    refine bodyPost_ret (results_tmp2 rfl _ _ _) rfl ?_
    exact ⟨⟨_, _, rfl⟩, HB.out.trans ⟨rfl, rfl, rfl, Nat.le_refl _, fun _ _ => rfl⟩⟩

/-- What is known of a token: what ParseFloat makes of it, and its kind by its text. -/
structure TkOk (rd : ByteArray → Option Nat) (t : Nat × ByteArray) : Prop where
  nt : NT t.2 (rd t.2)
  nn : t.1 ≠ 49 → rd t.2 = none
  nm : t.1 = 49 → ∃ M E x, t.2.data.toList = M ++ E ∧ okM false M ∧ (M.foldl rStep rs0).dg = true ∧ ExpIs E x ∧ ((atV M x).2 = .nilIface ∧ rd t.2 = some (atV M x).1 ∨ (atV M x).2 = .iface 162 (.int .i64 1) ∧ rd t.2 = none)
  k40 : t.1 = 40 ↔ t.2 = tLP
  k41 : t.1 = 41 ↔ t.2 = tRP
  k44 : t.1 = 44 ↔ t.2 = tCM
  k45 : t.1 = 45 ↔ t.2 = tMN
  kem : t.2 = tEMPTY → t.1 = 97
theorem okM_dgs : ∀ (d : Bool) (A : List UInt8), Dgs A → okM d A
  | _, [], _ => trivial
  | d, c :: A, h => .inr ⟨(h c (by simp)).1, (h c (by simp)).2, okM_dgs d A (fun x hx => h x (by simp [hx]))⟩
theorem okM_dot : ∀ (A B : List UInt8), Dgs A → Dgs B → okM false (A ++ 46 :: B)
  | [], B, _, hB => .inl ⟨rfl, rfl, okM_dgs true B hB⟩
  | c :: A, B, hA, hB => .inr ⟨(hA c (by simp)).1, (hA c (by simp)).2, okM_dot A B (fun x hx => hA x (by simp [hx])) hB⟩
theorem rStep_dg (s : RS) (c : UInt8) (h : s.dg = true) : (rStep s c).dg = true := by
  unfold rStep
  split
  · exact h
  · split
    · rfl
    · split <;> rfl
theorem rStep_new (s : RS) (c : UInt8) (h : isDg c) : (rStep s c).dg = true := by
  unfold isDg at h
  unfold rStep
  rw [if_neg (by omega)]
  split
  · rfl
  · split <;> rfl
theorem fold_dg : ∀ (M : List UInt8) (s : RS), s.dg = true → (M.foldl rStep s).dg = true
  | [], _, h => h
  | c :: M, s, h => fold_dg M _ (rStep_dg s c h)
theorem fold_new : ∀ (M : List UInt8) (s : RS), (∃ c ∈ M, isDg c) → (M.foldl rStep s).dg = true
  | [], _, ⟨c, h, _⟩ => by cases h
  | a :: M, s, ⟨c, h, hd⟩ => by
    rcases List.mem_cons.1 h with rfl | h
    · exact fold_dg M _ (rStep_new s c hd)
    · exact fold_new M _ ⟨c, h, hd⟩
theorem Mt.ok {M : List UInt8} (h : Mt M) : okM false M ∧ (M.foldl rStep rs0).dg = true := by
  cases h with
  | whole _ h hA =>
    refine ⟨okM_dgs false M hA, fold_new M _ ?_⟩
    cases M with
    | nil => exact absurd rfl h
    | cons c M => exact ⟨c, by simp, hA c (by simp)⟩
  | dot A B h hA hB =>
    refine ⟨okM_dot A B hA hB, fold_new _ _ ?_⟩
    cases A with
    | cons c A => exact ⟨c, by simp, hA c (by simp)⟩
    | nil =>
      cases B with
      | nil => rcases h with h | h <;> exact absurd rfl h
      | cons c B => exact ⟨c, by simp, hB c (by simp)⟩
open Classical in
noncomputable def rdT (t : ByteArray) : Option Nat :=
  if h : (∃ M E x, t.data.toList = M ++ E ∧ Mt M ∧ ExpIs E x) then
    (if (atV h.choose h.choose_spec.choose_spec.choose).2 = .nilIface then some (atV h.choose h.choose_spec.choose_spec.choose).1 else none)
  else none
open Classical in
theorem rdT_num {t : ByteArray} (h : ∃ M E x, t.data.toList = M ++ E ∧ Mt M ∧ ExpIs E x) : ∃ M E x, t.data.toList = M ++ E ∧ Mt M ∧ ExpIs E x ∧ ((atV M x).2 = .nilIface ∧ rdT t = some (atV M x).1 ∨ (atV M x).2 = .iface 162 (.int .i64 1) ∧ rdT t = none) := by
  have hs := h.choose_spec.choose_spec.choose_spec
  refine ⟨h.choose, h.choose_spec.choose, h.choose_spec.choose_spec.choose, hs.1, hs.2.1, hs.2.2, ?_⟩
  have hd : rdT t = (if (atV h.choose h.choose_spec.choose_spec.choose).2 = .nilIface then some (atV h.choose h.choose_spec.choose_spec.choose).1 else none) := by
    unfold rdT
    rw [dif_pos h]
  rcases (atV_ok _ h.choose_spec.choose_spec.choose hs.2.1.ok.1).2.2 with h1 | h1
  · left
    exact ⟨h1, by rw [hd, if_pos h1]⟩
  · right
    exact ⟨h1, by rw [hd, h1, if_neg (fun e => by cases e)]⟩
theorem rdT_none {t : ByteArray} {c : UInt8} {R : List UInt8} (h : t.data.toList = c :: R) (hc : ¬ (isDg c ∨ c.toNat = 46)) : rdT t = none := by
  unfold rdT
  rw [dif_neg]
  rintro ⟨M, E, x, h1, h2, -⟩
  obtain ⟨c', Q, rfl, h3⟩ := h2.head
  rw [h] at h1
  injection h1 with h1 _
  subst h1
  exact hc h3
theorem head_eq {t : ByteArray} {c y : UInt8} {R Q : List UInt8} (h : t.data.toList = c :: R) {u : ByteArray} (hu : u.data.toList = y :: Q) (e : t = u) : c = y := by
  rw [e, hu] at h
  injection h with h _
  exact h.symm
theorem tw_ok {t : Nat × ByteArray} (h : TW t) (hsz : t.2.size ≤ 100000) : TkOk rdT t := by
  cases h with
  | sg c h =>
    have hc : c = 40 ∨ c = 41 ∨ c = 44 ∨ c = 45 := by
      unfold sgB at h
      simp at h
      rcases h with ((h | h) | h) | h
      · exact .inl (UInt8.toNat_inj.1 h)
      · exact .inr (.inl (UInt8.toNat_inj.1 h))
      · exact .inr (.inr (.inl (UInt8.toNat_inj.1 h)))
      · exact .inr (.inr (.inr (UInt8.toNat_inj.1 h)))
    have hrd : rdT ⟨#[c]⟩ = none := by
      refine rdT_none (c := c) (R := []) rfl ?_
      unfold isDg
      rcases hc with rfl | rfl | rfl | rfl <;> decide
    have hb : BadS ⟨#[c]⟩ := by
      by_cases h45 : c = 45
      · subst h45
        exact bad_minus _ rfl
      · refine bad_word _ c [] rfl ?_ ?_ ?_ ?_ ?_ hsz
        all_goals rcases hc with rfl | rfl | rfl | rfl
        all_goals first | decide | exact absurd rfl h45
    refine ⟨⟨?_, hsz, ?_⟩, fun _ => hrd, ?_, ?_, ?_, ?_, ?_, ?_⟩
    · rw [hrd]
      exact .bad hb
    · intro x hx
      have : x = c := by simpa using hx
      subst this
      rcases hc with rfl | rfl | rfl | rfl <;> decide
    · intro h49
      exfalso
      rcases hc with rfl | rfl | rfl | rfl <;> exact absurd h49 (by decide)
    all_goals rcases hc with rfl | rfl | rfl | rfl
    all_goals decide
  | word c M h =>
    have hc := letB_num (h c (by simp))
    have hl : (⟨(c :: M).toArray⟩ : ByteArray).data.toList = c :: M := by simp
    have hrd : rdT ⟨(c :: M).toArray⟩ = none := by
      refine rdT_none hl ?_
      unfold isDg
      omega
    have hne : ∀ (u : ByteArray) (y : UInt8) (Q : List UInt8), u.data.toList = y :: Q → y.toNat < 60 → (⟨(c :: M).toArray⟩ : ByteArray) ≠ u := by
      intro u y Q hu hy e
      have := head_eq hl hu e
      subst this
      omega
    refine ⟨⟨?_, hsz, ?_⟩, fun _ => hrd, ?_, ?_, ?_, ?_, ?_, ?_⟩
    · rw [hrd]
      exact .bad (bad_word _ c M hl (by omega) (by omega) (by omega) (by omega) (by omega) hsz)
    · intro x hx
      rw [hl] at hx
      have := letB_num (h x hx)
      omega
    · intro h49
      cases h49
    · exact ⟨fun h => (by cases h), fun h => absurd h (hne _ 40 [] rfl (by decide))⟩
    · exact ⟨fun h => (by cases h), fun h => absurd h (hne _ 41 [] rfl (by decide))⟩
    · exact ⟨fun h => (by cases h), fun h => absurd h (hne _ 44 [] rfl (by decide))⟩
    · exact ⟨fun h => (by cases h), fun h => absurd h (hne _ 45 [] rfl (by decide))⟩
    · exact fun _ => rfl
  | num M E x hM hE =>
    obtain ⟨c, Q, hcQ, hc⟩ := hM.head
    have hl : (⟨(M ++ E).toArray⟩ : ByteArray).data.toList = M ++ E := by simp
    have hl2 : (⟨(M ++ E).toArray⟩ : ByteArray).data.toList = c :: (Q ++ E) := by rw [hl, hcQ]; rfl
    obtain ⟨M', E', x', e1, e2, e3, e4⟩ := rdT_num ⟨M, E, x, hl, hM, hE⟩
    have hne : ∀ (u : ByteArray) (y : UInt8) (Q' : List UInt8), u.data.toList = y :: Q' → ¬ (isDg y ∨ y.toNat = 46) → (⟨(M ++ E).toArray⟩ : ByteArray) ≠ u := by
      intro u y Q' hu hy e
      have := head_eq hl2 hu e
      subst this
      exact hy hc
    have hdg : ∀ y : UInt8, y.toNat = 40 ∨ y.toNat = 41 ∨ y.toNat = 44 ∨ y.toNat = 45 ∨ y.toNat = 69 → ¬ (isDg y ∨ y.toNat = 46) := by
      intro y hy
      unfold isDg
      omega
    refine ⟨⟨?_, hsz, ?_⟩, fun h => absurd rfl h, fun _ => ⟨M', E', x', e1, e2.ok.1, e2.ok.2, e3, e4⟩, ?_, ?_, ?_, ?_, ?_⟩
    · rcases e4 with ⟨h1, h2⟩ | ⟨h1, h2⟩
      · rw [h2]
        exact .ok M' E' x' e1 e2.ok.1 e2.ok.2 e3 h1
      · rw [h2]
        exact .rng M' E' x' e1 e2.ok.1 e2.ok.2 e3 h1
    · intro y hy
      rw [hl] at hy
      have hD : ∀ {A : List UInt8}, Dgs A → y ∈ A → 32 ≤ y.toNat ∧ y.toNat ≤ 126 ∧ y.toNat ≠ 34 ∧ y.toNat ≠ 92 := by
        intro A hA hy
        have := hA y hy
        unfold isDg at this
        omega
      rcases List.mem_append.1 hy with hy | hy
      · cases hM with
        | whole _ _ hA => exact hD hA hy
        | dot A B _ hA hB =>
          rcases List.mem_append.1 hy with hy | hy
          · exact hD hA hy
          · rcases List.mem_cons.1 hy with rfl | hy
            · decide
            · exact hD hB hy
      · cases hE with
        | none => cases hy
        | plain ec D h _ hd' =>
          rcases List.mem_cons.1 hy with rfl | hy
          · omega
          · exact hD hd' hy
        | plus ec D h _ hd' =>
          rcases List.mem_cons.1 hy with rfl | hy
          · omega
          · rcases List.mem_cons.1 hy with rfl | hy
            · decide
            · exact hD hd' hy
        | minus ec D h _ hd' =>
          rcases List.mem_cons.1 hy with rfl | hy
          · omega
          · rcases List.mem_cons.1 hy with rfl | hy
            · decide
            · exact hD hd' hy
    · exact ⟨fun h => (by cases h), fun h => absurd h (hne _ 40 [] rfl (hdg _ (by decide)))⟩
    · exact ⟨fun h => (by cases h), fun h => absurd h (hne _ 41 [] rfl (hdg _ (by decide)))⟩
    · exact ⟨fun h => (by cases h), fun h => absurd h (hne _ 44 [] rfl (hdg _ (by decide)))⟩
    · exact ⟨fun h => (by cases h), fun h => absurd h (hne _ 45 [] rfl (hdg _ (by decide)))⟩
    · exact fun h => absurd h (hne _ 69 [77, 80, 84, 89] rfl (hdg _ (by decide)))
end Go.Proofs.YthfjakbpeclfcaaGreatDoor
