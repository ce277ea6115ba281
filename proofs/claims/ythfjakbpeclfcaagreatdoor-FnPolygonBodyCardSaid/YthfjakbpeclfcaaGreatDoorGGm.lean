/-
  The package's Sequence, LineString and Polygon: small functions.
  The parser's nextLineStringText.
-/
import Derived.Test.YthfjakbpeclfcaaGreatDoorPp
import Derived.Laws.Rows
import Derived.Laws.ResultCell
namespace Go.Proofs.YthfjakbpeclfcaaGreatDoor
open Go.RowKit Go
section
variable {P : Program} {fn : Func} {p u : Tmp} {ty : TypeId}
theorem res_cell (h : fn.results = #[.cell p ty]) (tmps : Array Value) (w : World) (g : Nat) (t : TypeId) (cs : Array Value) (fr : Nat × Nat) (fs : Array Field)
    (hp : tmps.getD p undef = .pointer (some ⟨g, 0, none⟩)) (hg : w.heap[g]? = some (.cells cs t fr)) (hu : P.underlying ty = some (.struct fs)) (hi : (P.info? ty).map (·.size) = some cs.size) :
    (results fn tmps).run P w = .ok (.agg cs) w := results_cell_row h tmps w g t cs fr _ hp hg hu rfl hi
theorem res_cell2 (h : fn.results = #[.cell p ty, .tmp u]) (tmps : Array Value) (w : World) (g : Nat) (t : TypeId) (cs : Array Value) (fr : Nat × Nat) (fs : Array Field)
    (hp : tmps.getD p undef = .pointer (some ⟨g, 0, none⟩)) (hg : w.heap[g]? = some (.cells cs t fr)) (hu : P.underlying ty = some (.struct fs)) (hi : (P.info? ty).map (·.size) = some cs.size) :
    (results fn tmps).run P w = .ok (.tuple #[.agg cs, tmps.getD u undef]) w := by
  rw [results_cell_tmp h, hp]
  show (Sem.run P (loadVar ty ⟨g, 0, none⟩) w).andThen _ = _
  rw [run_loadVar_row w g t ty cs fr _ hg hu rfl hi]
  rfl
end
theorem dimW_pos (d : Nat) : 0 < dimW d := by unfold dimW; split; omega; split <;> omega
set_option maxHeartbeats 1000000 in
set_option maxRecDepth 100000 in
theorem ns_any (d : Nat) (hd : d < 4) (ao : Option Addr) (n c : Nat) (hm : n % dimW d = 0) (w : World) :
    Calls Tryz.prog 68 #[.slice ao n c, .int .u8 d] w fun e w' => e = .returned (.agg #[.int .u8 d, .slice ao n c]) ∧ Below w.heap.size w w' := by
  have hdim := fun w => dim_any d hd w
  have hp := dimW_pos d
  generalize dimW d = D at *
  have h0 : ¬ D = 0 := by omega
  have h1 : ((n : Int) % (D : Int) != 0) = false := by
    rw [bne_eq_false_iff_eq]
    omega
  clear hm hp
  go_enter Tryz.func68, Tryz.ntmps68
  go_wp2_with fail
  refine (hdim _).mono ?_
  rintro e w' ⟨rfl, rfl⟩
  go_wp2
  refine bodyPost_ret (res_cell rfl _ _ w.heap.size 65 #[.int .u8 d, .slice ao n c] (0, 0) _ rfl (heap_alloc_new _ _) Tryz.underlying65 (by kernel_rfl)) rfl ?_
  exact ⟨rfl, (Below.refl _ _).alloc (Nat.le_refl _) _⟩
set_option maxHeartbeats 1000000 in
set_option maxRecDepth 100000 in
theorem nl_any (d : Nat) (ao : Option Addr) (n c : Nat) (w : World) :
    Calls Tryz.prog 69 #[.agg #[.int .u8 d, .slice ao n c]] w fun e w' => e = .returned (.agg #[.int .u8 d, .slice ao n c]) ∧ Below w.heap.size w w' := by
  go_enter Tryz.func69, Tryz.ntmps69
  go_wp2
  refine bodyPost_ret (res_cell rfl _ _ (w.heap.size + 1) 67 #[.int .u8 d, .slice ao n c] (0, 0) _ rfl (heap_alloc2_new _ _ _) Tryz.underlying67 (by kernel_rfl)) rfl ?_
  exact ⟨rfl, ((Below.refl _ _).alloc (Nat.le_refl _) _).alloc (by simp) _⟩
end Go.Proofs.YthfjakbpeclfcaaGreatDoor

namespace Go.Proofs.YthfjakbpeclfcaaGreatDoor
open Go.RowKit Go

def npts (rd : ByteArray → Option Nat) (D : Nat) : Nat → List Nat → List ByteArray → Option (List Nat × List ByteArray)
  | 0, _, _ => none
  | _ + 1, _, [] => none
  | f + 1, acc, t :: r => if t = tRP then some (acc, r) else if t = tCM then (match nnum rd D r with | none => none | some (ys, q) => npts rd D f (acc ++ ys) q) else none
def nline (rd : ByteArray → Option Nat) (D : Nat) : List ByteArray → Option (List Nat × List ByteArray)
  | [] => none
  | t :: r => if t = tEMPTY then some ([], r) else if t = tLP then (match nnum rd D r with | none => none | some (ys, q) => npts rd D (q.length + 1) ys q) else none
section
variable {B P RD X k : Nat} {T : ByteArray} {rd : ByteArray → Option Nat} {D f : Nat} {l r q : List ByteArray} {t : ByteArray} {en : Ending} {w w' : World} {xs ys acc : List Nat}
theorem npts_nil : npts rd D f acc [] = none := by cases f <;> rfl
theorem npts_rp (h : t = tRP) : npts rd D (f + 1) acc (t :: r) = some (acc, r) := by unfold npts; rw [if_pos h]
theorem npts_bad (h1 : t ≠ tRP) (h2 : t ≠ tCM) : npts rd D f acc (t :: r) = none := by
  cases f with
  | zero => rfl
  | succ f => unfold npts; rw [if_neg h1, if_neg h2]
theorem tCM_RP (h : t = tCM) : t ≠ tRP := by rw [h]; decide
theorem tLP_EM (h : t = tLP) : t ≠ tEMPTY := by rw [h]; decide
theorem npts_none (h : t = tCM) (hn : nnum rd D r = none) : npts rd D f acc (t :: r) = none := by
  cases f with
  | zero => rfl
  | succ f => unfold npts; rw [if_neg (tCM_RP h), if_pos h, hn]
theorem npts_step (h : t = tCM) (hn : nnum rd D r = some (ys, q)) : npts rd D (f + 1) acc (t :: r) = npts rd D f (acc ++ ys) q := by
  conv => lhs; unfold npts
  rw [if_neg (tCM_RP h), if_pos h, hn]
theorem nline_em (h : t = tEMPTY) : nline rd D (t :: r) = some ([], r) := by show (if t = tEMPTY then some ([], r) else if t = tLP then (match nnum rd D r with | none => none | some (ys, q) => npts rd D (q.length + 1) ys q) else none) = _; rw [if_pos h]
theorem nline_bad (h1 : t ≠ tEMPTY) (h2 : t ≠ tLP) : nline rd D (t :: r) = none := by show (if t = tEMPTY then some ([], r) else if t = tLP then (match nnum rd D r with | none => none | some (ys, q) => npts rd D (q.length + 1) ys q) else none) = _; rw [if_neg h1, if_neg h2]
theorem nline_none (h : t = tLP) (hn : nnum rd D r = none) : nline rd D (t :: r) = none := by show (if t = tEMPTY then some ([], r) else if t = tLP then (match nnum rd D r with | none => none | some (ys, q) => npts rd D (q.length + 1) ys q) else none) = _; rw [if_neg (tLP_EM h), if_pos h, hn]
theorem nline_some (h : t = tLP) (hn : nnum rd D r = some (ys, q)) : nline rd D (t :: r) = npts rd D (q.length + 1) ys q := by show (if t = tEMPTY then some ([], r) else if t = tLP then (match nnum rd D r with | none => none | some (ys, q) => npts rd D (q.length + 1) ys q) else none) = _; rw [if_neg (tLP_EM h), if_pos h, hn]
theorem ownsRow_slice {e size n : Nat} {v : Value} {xs : List Value} (h : w.ownsRow X e size v n xs) : ∃ ao c, v = .slice ao n c := by
  rcases h.2 with ⟨rfl, rfl⟩ | ⟨g, cap, cur, rfl, -⟩
  · exact ⟨none, 0, rfl⟩
  · exact ⟨_, cap, rfl⟩
theorem ownsRow_far {e size n : Nat} {v : Value} {xs : List Value} (h : w.ownsRow X e size v n xs) (hb : Below w.heap.size w w') : w'.ownsRow X e size v n xs :=
  h.kept (row := none) ⟨hb.os, hb.tape, hb.output, hb.size, fun k hk _ => hb.block k hk⟩ (by cases hv : v.ownBlock <;> simp)
theorem Fr.sN (h : Fr B P RD w w') (hB : B ≤ w.heap.size) {g : Nat} (hg : w.heap.size ≤ g) (i : Nat) (v : Value) : Fr B P RD w (w'.setCell ⟨g, i, none⟩ v) :=
  ⟨h.bel.setCell (p := ⟨g, i, none⟩) (Nat.le_trans hB hg) v, fun k x a b c d => (Below.heap_setCell _ _ _ _ (by have := Lib.lt_of_heap a; show k ≠ g; omega)).trans (h.kept k x a b c d)⟩
theorem PS.set {g i : Nat} {cs : Array Value} {ty : TypeId} {fz : Nat × Nat} {v : Value} (h : PS B P RD T l w) (hg : w.heap[g]? = some (.cells cs ty fz)) (ht : ty ≠ 5) (hP : g ≠ P) (hR : g ≠ RD) (hB : B ≤ g) : PS B P RD T l (w.setCell ⟨g, i, none⟩ v) := by
  refine h.carry ((Below.refl B w).setCell (p := ⟨g, i, none⟩) hB v) ?_
  intro k x hx hor
  refine (Below.heap_setCell _ _ _ _ ?_).trans hx
  show k ≠ g
  rintro rfl
  rcases hor with rfl | rfl | ⟨cs', fz', rfl⟩
  · exact hP rfl
  · exact hR rfl
  · rw [hg] at hx
    injection hx with hx
    injection hx with _ hx
    exact ht hx
theorem ownsRow_set {e size n g i : Nat} {v u : Value} {xs : List Value} {cs : Array Value} {ty : TypeId} {fz : Nat × Nat} (h : w.ownsRow X e size v n xs) (hg : w.heap[g]? = some (.cells cs ty fz)) (ht : ty ≠ e) : (w.setCell ⟨g, i, none⟩ u).ownsRow X e size v n xs := by
  refine h.kept (row := some g) (Lib.grownBy_setCell w g i u) (Or.inr ?_)
  intro ek
  rcases h.2 with ⟨rfl, -⟩ | ⟨g', cap, cur, rfl, hg1, hg2, -⟩
  · cases ek
  · simp [Value.ownBlock] at ek
    subst ek
    rw [hg2] at hg
    injection hg with hg
    injection hg with _ hg
    exact ht hg.symm
theorem rb_heap {g ty : Nat} {a b x y : Value} (h : w.heap[g]? = some (.cells #[a, b] ty (0, 0))) : ((w.setCell ⟨g, 0, none⟩ x).setCell ⟨g, 1, none⟩ y).heap[g]? = some (.cells #[x, y] ty (0, 0)) :=
  Lib.heap_setCell_same (i := 1) (Lib.heap_setCell_same (i := 0) h x) y
theorem ownsRow_mono {e size n Y : Nat} {v : Value} {xs : List Value} (h : w.ownsRow X e size v n xs) (hY : Y ≤ X) : w.ownsRow Y e size v n xs :=
  ⟨h.1, h.2.imp id fun ⟨g, cap, cur, h1, h2, h3⟩ => ⟨g, cap, cur, h1, Nat.le_trans hY h2, h3⟩⟩
theorem below_far {n : Nat} (h : Below w'.heap.size w' w) (hs : n ≤ w'.heap.size) : Below n w' w := ⟨h.os, h.tape, h.output, h.size, fun k hk => h.block k (Nat.lt_of_lt_of_le hk hs)⟩
theorem rb_far {g : Nat} {x : Obj} (h : w.heap[g]? = some x) (hb : Below w.heap.size w w') : w'.heap[g]? = some x := (hb.block g (Lib.lt_of_heap h)).trans h
def lnOut (B P RD X : Nat) (T : ByteArray) (rd : ByteArray → Option Nat) (d : Nat) (l : List ByteArray) (en : Ending) (w' : World) : Prop :=
  match nline rd (dimW d) l with
  | some (xs, r) => ∃ v, en = .returned (.tuple #[.agg #[.int .u8 d, v], .nilIface]) ∧ w'.ownsRow X 79 1 v xs.length (fl xs) ∧ PS B P RD T r w'
  | none => ∃ c a b n v, en = .returned (.tuple #[.agg #[.int .u8 c, .slice a b n], v]) ∧ errV v
theorem lnOut_none {d : Nat} (h : nline rd (dimW d) l = none) (he : ∃ c a b n v, en = .returned (.tuple #[.agg #[.int .u8 c, .slice a b n], v]) ∧ errV v) : lnOut B P RD X T rd d l en w' := by unfold lnOut; rw [h]; exact he
theorem lnOut_some {d : Nat} (h : nline rd (dimW d) l = some (xs, r)) (he : ∃ v, en = .returned (.tuple #[.agg #[.int .u8 d, v], .nilIface]) ∧ w'.ownsRow X 79 1 v xs.length (fl xs) ∧ PS B P RD T r w') : lnOut B P RD X T rd d l en w' := by unfold lnOut; rw [h]; exact he
end

set_option maxHeartbeats 4000000 in
set_option maxRecDepth 100000 in
theorem p55 (B P RD : Nat) (T : ByteArray) (rd : ByteArray → Option Nat) (l : List ByteArray) (w : World) (d : Nat) (hd : d < 4) (h : PS B P RD T l w) (hN : NumP B w) (hr : ∀ t, t ∈ l → NT t (rd t))
    (hP : P < w.heap.size) (hR : RD < w.heap.size) (hsz : l.length ≤ 100000) :
    Calls Tryz.prog 55 #[.pointer (some ⟨P, 0, none⟩), .int .u8 d] w fun en w' => lnOut B P RD w.heap.size T rd d l en w' ∧ Fr B P RD w w' := by
  obtain ⟨X, hX⟩ : ∃ X, X = w.heap.size + 1 := ⟨_, rfl⟩
  have hBw := h.hs
  have hPA := h.far ((Below.refl _ _).alloc (Nat.le_refl _) (.cells #[.int .u8 0, .slice none 0 0] 67))
  have hFA : Fr B P RD w (w.alloc (.cells #[.int .u8 0, .slice none 0 0] 67)) := Fr.refl.alloc hBw _
  have hc := p54 B P RD T l _ hPA
  have hRB := heap_alloc_new w (.cells #[.int .u8 0, .slice none 0 0] 67)
  have HPA := Lib.hid hPA
  have HFA := Lib.hid hFA
  have HN := Lib.hid hN
  have HR := Lib.hid hr
  have HRB := Lib.hid hRB
  have HX := Lib.hid hX
  clear h hPA hFA hN hr hRB hX
  go_enter Tryz.func55, Tryz.ntmps55
  go_wp2_with fail
  refine hc.mono ?_
  rintro e w1 ⟨h1, hf⟩
  have HF0 := Lib.hid (HFA.out.trans hf)
  have HB0 := Lib.hid (hf.kept _ _ HRB.out (by omega) (by omega) (fun cs fz e => by injection e with _ e _; exact absurd e (by decide)))
  have HFF := Lib.hid hf
  clear hc hf
  by_cases hok : ∃ t r, l = t :: r ∧ (t = tEMPTY ∨ t = tLP)
  · obtain ⟨t, r, rfl, hor⟩ := hok
    have h1' : e = .returned (.tuple #[.string t, .nilIface]) ∧ PS B P RD T r w1 := by
      rcases h1 with ⟨-, h1⟩ | ⟨h2, h3, -⟩
      · exact h1
      · rcases hor with h | h
        · exact absurd h h2
        · exact absurd h h3
    obtain ⟨rfl, hp1⟩ := h1'
    have HP1 := Lib.hid hp1
    clear h1 hp1
    by_cases ht : t = tEMPTY
    · have b1 : (t.toList == [40]) = false := str_ne (x := tLP) (fun e => tLP_EM e ht) rfl
      have HT := Lib.hid ht
      have HM0 := Lib.hid (Nat.zero_mod (dimW d))
      have HPS0 := HP1
      have HO0 := Lib.hid (World.ownsRow_nil w1 X 79 1)
      clear ht hor
      have hns := ns_any d hd none 0 0 HM0.out w1
      go_wp2_with fail
      refine hns.mono ?_
      rintro e wa ⟨rfl, hba⟩
      have hba2 : Below w1.heap.size w1 (wa.alloc (.cells #[.int .u8 d, .slice none 0 0] 65)) := hba.alloc hba.size _
      have HBA := Lib.hid hba2
      clear hba hba2 hns
      have hnl := nl_any d none 0 0 (wa.alloc (.cells #[.int .u8 d, .slice none 0 0] 65))
      go_wp2_with fail
      refine hnl.mono ?_
      rintro e wb ⟨rfl, hbb⟩
      have hbw := HBA.out.trans (below_far hbb HBA.out.size)
      have HBB := Lib.hid hbw
      have hrb := rb_far HB0.out hbw
      clear hbb hnl hbw
      have c0 : wb.cell? ⟨w.heap.size, 0, none⟩ = some (.int .u8 0) := by rw [Lib.cell_of_heap hrb]; rfl
      have c1 : wb.cell? ⟨w.heap.size, 1, none⟩ = some (.slice none 0 0) := by rw [Lib.cell_of_heap hrb]; rfl
      have z := Lib.frozen_of_heap hrb
      have HRBF := Lib.hid hrb
      clear hrb
      go_wp2
      refine bodyPost_ret (res_cell2 rfl _ _ w.heap.size 67 #[_, _] (0, 0) _ rfl (rb_heap HRBF.out) Tryz.underlying67 (by kernel_rfl)) rfl ?_
      have hrbs := Lib.heap_setCell_same (i := 0) HRBF.out (.int .u8 d)
      refine ⟨lnOut_some (nline_em HT.out) ⟨_, rfl, ownsRow_mono (ownsRow_set (ownsRow_set (ownsRow_far HO0.out HBB.out) HRBF.out (by decide)) hrbs (by decide)) (by have := HX.out; omega), ((HPS0.out.far HBB.out).set HRBF.out (by decide) (by omega) (by omega) hBw).set hrbs (by decide) (by omega) (by omega) hBw⟩, ((HF0.out.trans (Fr.far HPS0.out.hs HBB.out)).sN hBw (Nat.le_refl _) 0 _).sN hBw (Nat.le_refl _) 1 _⟩
    · have ht2 : t = tLP := hor.resolve_left ht
      have b1 : (t.toList == [40]) = true := str_eq ht2 rfl
      have HT := Lib.hid ht2
      clear ht ht2 hor
      have hXw : X ≤ w1.heap.size := by have := Lib.lt_of_heap HB0.out; have := HX.out; omega
      have hBX : B ≤ X := by have := HX.out; omega
      have hPX : P < X := by have := HX.out; omega
      have hRX : RD < X := by have := HX.out; omega
      have hWX : w.heap.size < X := by have := HX.out; omega
      have hpt := p67 B P RD X T rd r w1 d hd (.slice none 0 0) [] HP1.out (HN.out.below HF0.out.bel) (fun u hu => HR.out u (by simp [hu])) (World.ownsRow_nil w1 X 79 1) hPX hRX hBX hXw (by simp at hsz ⊢; omega)
      go_wp2_with fail
      refine hpt.mono ?_
      rintro e w2 ⟨h2, hf2⟩
      have HFX2 := Lib.hid hf2
      have HB1 := HB0
      have HFF1 := HFF
      have HF1 := HF0
      clear HB0 HF0 HFF
      have HB0 := Lib.hid (hf2.kept _ _ HB1.out hWX (by omega) (by omega) (fun cs fz e => by injection e with _ e _; exact absurd e (by decide)))
      have HF0 := Lib.hid (HFA.out.trans (((HFF1.out.x X).trans hf2).fr (by simp [HX.out])))
      clear hf2 hpt
      cases hnn : nnum rd (dimW d) r with
      | none =>
        unfold ptOut at h2
        rw [hnn] at h2
        obtain ⟨u0, v0, rfl, sy, rfl⟩ := h2
        have HNO := Lib.hid (nline_none (rd := rd) (D := dimW d) HT.out hnn)
        clear hnn
        have c0 : w2.cell? ⟨w.heap.size, 0, none⟩ = some (.int .u8 0) := by rw [Lib.cell_of_heap HB0.out]; rfl
        have c1 : w2.cell? ⟨w.heap.size, 1, none⟩ = some (.slice none 0 0) := by rw [Lib.cell_of_heap HB0.out]; rfl
        have z := Lib.frozen_of_heap HB0.out
        go_wp2
        refine bodyPost_ret (res_cell2 rfl _ _ w.heap.size 67 #[_, _] (0, 0) _ rfl (rb_heap HB0.out) Tryz.underlying67 (by kernel_rfl)) rfl ?_
        exact ⟨lnOut_none HNO.out ⟨0, none, 0, 0, _, rfl, _, rfl⟩, (HF0.out.sN hBw (Nat.le_refl _) 0 _).sN hBw (Nat.le_refl _) 1 _⟩
      | some q =>
        obtain ⟨ys, q⟩ := q
        unfold ptOut at h2
        rw [hnn] at h2
        obtain ⟨v2, rfl, hown2, hps2⟩ := h2
        obtain ⟨⟨p2, hp2⟩, hlen2, hys2⟩ := nnum_sub hnn
        have HEQ := Lib.hid (nline_some HT.out hnn)
        have HSUB2 : Hid (∃ p, t :: r = p ++ q) := Lib.hid ⟨t :: p2, by rw [hp2]; rfl⟩
        simp only [List.length_nil, Nat.zero_add, List.nil_append] at hown2
        have HO2 := Lib.hid hown2
        have HPS2 := Lib.hid hps2
        have HL2 := Lib.hid hlen2
        have HY2 := Lib.hid hys2
        clear hnn hp2 hlen2 hys2 hown2 hps2
        go_wp2
        go_loopg [6, 9, 10] (q.length + 1) (fun G s6 s9 s10 wr => ∃ (acc : List Nat) (r' : List ByteArray), r'.length < G ∧ nline rd (dimW d) (t :: r) = npts rd (dimW d) G acc r' ∧ acc.length % dimW d = 0 ∧ acc.length + r'.length ≤ 100000 ∧ (∃ p, t :: r = p ++ r') ∧
          wr.ownsRow X 79 1 s6 acc.length (fl acc) ∧ PS B P RD T r' wr ∧ FrX B P RD X w1 wr)
        case atStart => exact ⟨ys, q, by omega, HEQ.out, by rw [HY2.out]; exact Nat.mod_self _, by have := HL2.out; have := HY2.out; simp at hsz; omega, HSUB2.out, HO2.out, HPS2.out, HFX2.out⟩
        case round =>
          obtain ⟨acc, r', hG, heq, hmod, hsum, hsub, hown, hps, hfr⟩ := hrel
          clear HB0 HF0
          have HB0 := Lib.hid (hfr.kept _ _ HB1.out hWX (by omega) (by omega) (fun cs fz e => by injection e with _ e _; exact absurd e (by decide)))
          have HF0 := Lib.hid (HFA.out.trans (((HFF1.out.x X).trans hfr).fr (by simp [HX.out])))
          have hc := p56 B P RD T r' wr hps
          have HG := Lib.hid hG
          have HEQ := Lib.hid heq
          have HMOD := Lib.hid hmod
          have HSUM := Lib.hid hsum
          have HSUB := Lib.hid hsub
          have HOW := Lib.hid hown
          have HFR := Lib.hid hfr
          obtain ⟨aw, cw, hvw⟩ := ownsRow_slice hown
          subst hvw
          clear hG heq hmod hsum hsub hown hps hfr
          go_wp2_with fail
          refine hc.mono ?_
          rintro e w3 ⟨h3, hf3⟩
          have HB2 := HB0
          have HF2 := HF0
          clear HB0 HF0
          have HB0 := Lib.hid (hf3.kept _ _ HB2.out (by omega) (by omega) (fun cs fz e => by injection e with _ e _; exact absurd e (by decide)))
          have HF0 := Lib.hid (HF2.out.trans hf3)
          have HFR3 := Lib.hid (HFR.out.trans (hf3.x X))
          have HO3 := Lib.hid (ownsRow_fr HOW.out hf3 hPX hRX (by decide))
          clear hc hf3
          by_cases hok : ∃ t' r2, r' = t' :: r2 ∧ (t' = tRP ∨ t' = tCM)
          · obtain ⟨t', r2, rfl, hor⟩ := hok
            have h1' : e = .returned (.tuple #[.string t', .nilIface]) ∧ PS B P RD T r2 w3 := by
              rcases h3 with ⟨-, h1⟩ | ⟨h2, h3, -⟩
              · exact h1
              · rcases hor with h | h
                · exact absurd h h2
                · exact absurd h h3
            obtain ⟨rfl, hp3⟩ := h1'
            have HPS0 := Lib.hid hp3
            clear h3 hp3
            by_cases hrp : t' = tRP
            · have b2 : (t'.toList == [44]) = false := str_ne (x := tCM) (fun e => tCM_RP e hrp) rfl
              have HM0 := HMOD
              have HO0 := HO3
              have HRP := Lib.hid hrp
              clear hrp hor b1
              have HRES : Hid (nline rd (dimW d) (t :: r) = some (acc, r2)) := by
                obtain ⟨g', rfl⟩ : ∃ g', gk = g' + 1 := ⟨gk - 1, by have := HG.out; omega⟩
                exact Lib.hid (HEQ.out.trans (npts_rp HRP.out))
              have hns := ns_any d hd aw acc.length cw HM0.out w3
              go_wp2_with fail
              refine hns.mono ?_
              rintro e wa ⟨rfl, hba⟩
              have hba2 : Below w3.heap.size w3 (wa.alloc (.cells #[.int .u8 d, .slice aw acc.length cw] 65)) := hba.alloc hba.size _
              have HBA := Lib.hid hba2
              clear hba hba2 hns
              have hnl := nl_any d aw acc.length cw (wa.alloc (.cells #[.int .u8 d, .slice aw acc.length cw] 65))
              go_wp2_with fail
              refine hnl.mono ?_
              rintro e wb ⟨rfl, hbb⟩
              have hbw := HBA.out.trans (below_far hbb HBA.out.size)
              have HBB := Lib.hid hbw
              have hrb := rb_far HB0.out hbw
              clear hbb hnl hbw
              have c0 : wb.cell? ⟨w.heap.size, 0, none⟩ = some (.int .u8 0) := by rw [Lib.cell_of_heap hrb]; rfl
              have c1 : wb.cell? ⟨w.heap.size, 1, none⟩ = some (.slice none 0 0) := by rw [Lib.cell_of_heap hrb]; rfl
              have z := Lib.frozen_of_heap hrb
              have HRBF := Lib.hid hrb
              clear hrb
              go_wp2
              refine bodyPost_ret (res_cell2 rfl _ _ w.heap.size 67 #[_, _] (0, 0) _ rfl (rb_heap HRBF.out) Tryz.underlying67 (by kernel_rfl)) rfl ?_
              have hrbs := Lib.heap_setCell_same (i := 0) HRBF.out (.int .u8 d)
              refine ⟨lnOut_some HRES.out ⟨_, rfl, ownsRow_mono (ownsRow_set (ownsRow_set (ownsRow_far HO0.out HBB.out) HRBF.out (by decide)) hrbs (by decide)) (by have := HX.out; omega), ((HPS0.out.far HBB.out).set HRBF.out (by decide) (by omega) (by omega) hBw).set hrbs (by decide) (by omega) (by omega) hBw⟩, ((HF0.out.trans (Fr.far HPS0.out.hs HBB.out)).sN hBw (Nat.le_refl _) 0 _).sN hBw (Nat.le_refl _) 1 _⟩
            · have hcm : t' = tCM := hor.resolve_left hrp
              have b2 : (t'.toList == [44]) = true := str_eq hcm rfl
              have HCM := Lib.hid hcm
              clear hrp hcm hor b1
              have hX3 : X ≤ w3.heap.size := Nat.le_trans hXw HFR3.out.bel.size
              have hpt := p67 B P RD X T rd r2 w3 d hd _ acc HPS0.out (HN.out.below HF0.out.bel) (fun u hu => HR.out u (by
                obtain ⟨p, e⟩ := HSUB.out
                rw [e]
                simp [hu])) HO3.out hPX hRX hBX hX3 (by have := HSUM.out; simp at this; omega)
              go_wp2_with fail
              refine hpt.mono ?_
              rintro e w4 ⟨h4, hf4⟩
              have HFX4 := Lib.hid (HFR3.out.trans hf4)
              clear HB0 HF0
              have HB0 := Lib.hid (HFX4.out.kept _ _ HB1.out hWX (by omega) (by omega) (fun cs fz e => by injection e with _ e _; exact absurd e (by decide)))
              have HF0 := Lib.hid (HFA.out.trans (((HFF1.out.x X).trans HFX4.out).fr (by simp [HX.out])))
              clear hpt hf4
              cases hn4 : nnum rd (dimW d) r2 with
              | none =>
                unfold ptOut at h4
                rw [hn4] at h4
                obtain ⟨u0, v0, rfl, sy, rfl⟩ := h4
                have HNO := Lib.hid (HEQ.out.trans (npts_none HCM.out hn4))
                clear hn4
                have c0 : w4.cell? ⟨w.heap.size, 0, none⟩ = some (.int .u8 0) := by rw [Lib.cell_of_heap HB0.out]; rfl
                have c1 : w4.cell? ⟨w.heap.size, 1, none⟩ = some (.slice none 0 0) := by rw [Lib.cell_of_heap HB0.out]; rfl
                have z := Lib.frozen_of_heap HB0.out
                go_wp2
                refine bodyPost_ret (res_cell2 rfl _ _ w.heap.size 67 #[_, _] (0, 0) _ rfl (rb_heap HB0.out) Tryz.underlying67 (by kernel_rfl)) rfl ?_
                exact ⟨lnOut_none HNO.out ⟨0, none, 0, 0, _, rfl, _, rfl⟩, (HF0.out.sN hBw (Nat.le_refl _) 0 _).sN hBw (Nat.le_refl _) 1 _⟩
              | some q4 =>
                obtain ⟨ys4, q4⟩ := q4
                unfold ptOut at h4
                rw [hn4] at h4
                obtain ⟨v4, rfl, hown4, hps4⟩ := h4
                have HN4 := Lib.hid hn4
                have HO4 := Lib.hid hown4
                have HPS4 := Lib.hid hps4
                clear hn4 hown4 hps4
                go_wp2
                go_roundg (gk - 1)
                case measure => have := HG.out; omega
                case rel =>
                  obtain ⟨⟨p4, e4⟩, hl4, hy4⟩ := nnum_sub HN4.out
                  obtain ⟨p0, e0⟩ := HSUB.out
                  have hg := HG.out
                  have hs := HSUM.out
                  simp only [List.length_cons] at hg hs
                  refine ⟨acc ++ ys4, q4, by omega, ?_, ?_, by rw [List.length_append]; omega, ⟨p0 ++ t' :: p4, by rw [e0, e4]; simp⟩, by rw [List.length_append]; exact HO4.out, HPS4.out, HFX4.out⟩
                  · obtain ⟨g', rfl⟩ : ∃ g', gk = g' + 1 := ⟨gk - 1, by omega⟩
                    exact HEQ.out.trans (npts_step HCM.out HN4.out)
                  · rw [List.length_append, hy4, Nat.add_mod_right]
                    exact HMOD.out
          · have hb : badStr e ∧ npts rd (dimW d) gk acc r' = none := by
              cases r' with
              | nil => exact ⟨h3, npts_nil⟩
              | cons t' r2 =>
                have h2 : t' ≠ tRP := fun h => hok ⟨t', r2, rfl, .inl h⟩
                have h4 : t' ≠ tCM := fun h => hok ⟨t', r2, rfl, .inr h⟩
                refine ⟨?_, npts_bad h2 h4⟩
                rcases h3 with ⟨h, -⟩ | ⟨-, -, h⟩
                · rcases h with h | h
                  · exact absurd h h2
                  · exact absurd h h4
                · exact h
            obtain ⟨hb, hnone⟩ := hb
            have HNO := Lib.hid (HEQ.out.trans hnone)
            obtain ⟨sx, vx, rfl, sy, rfl⟩ := hb
            clear h3 hok hnone b1
            have c0 : w3.cell? ⟨w.heap.size, 0, none⟩ = some (.int .u8 0) := by rw [Lib.cell_of_heap HB0.out]; rfl
            have c1 : w3.cell? ⟨w.heap.size, 1, none⟩ = some (.slice none 0 0) := by rw [Lib.cell_of_heap HB0.out]; rfl
            have z := Lib.frozen_of_heap HB0.out
            go_wp2
            refine bodyPost_ret (res_cell2 rfl _ _ w.heap.size 67 #[_, _] (0, 0) _ rfl (rb_heap HB0.out) Tryz.underlying67 (by kernel_rfl)) rfl ?_
            exact ⟨lnOut_none HNO.out ⟨0, none, 0, 0, _, rfl, _, rfl⟩, (HF0.out.sN hBw (Nat.le_refl _) 0 _).sN hBw (Nat.le_refl _) 1 _⟩
  · have hb : badStr e ∧ nline rd (dimW d) l = none := by
      cases l with
      | nil => exact ⟨h1, rfl⟩
      | cons t r =>
        have h2 : t ≠ tEMPTY := fun h => hok ⟨t, r, rfl, .inl h⟩
        have h3 : t ≠ tLP := fun h => hok ⟨t, r, rfl, .inr h⟩
        refine ⟨?_, nline_bad h2 h3⟩
        rcases h1 with ⟨h, -⟩ | ⟨-, -, h⟩
        · rcases h with h | h
          · exact absurd h h2
          · exact absurd h h3
        · exact h
    obtain ⟨hb, hnone⟩ := hb
    have HNO := Lib.hid hnone
    obtain ⟨sx, vx, rfl, sy, rfl⟩ := hb
    clear h1 hok hnone
    have c0 : w1.cell? ⟨w.heap.size, 0, none⟩ = some (.int .u8 0) := by rw [Lib.cell_of_heap HB0.out]; rfl
    have c1 : w1.cell? ⟨w.heap.size, 1, none⟩ = some (.slice none 0 0) := by rw [Lib.cell_of_heap HB0.out]; rfl
    have z := Lib.frozen_of_heap HB0.out
    go_wp2
    refine bodyPost_ret (res_cell2 rfl _ _ w.heap.size 67 #[_, _] (0, 0) _ rfl (rb_heap HB0.out) Tryz.underlying67 (by kernel_rfl)) rfl ?_
    exact ⟨lnOut_none HNO.out ⟨0, none, 0, 0, _, rfl, _, rfl⟩, (HF0.out.sN hBw (Nat.le_refl _) 0 _).sN hBw (Nat.le_refl _) 1 _⟩
end Go.Proofs.YthfjakbpeclfcaaGreatDoor
