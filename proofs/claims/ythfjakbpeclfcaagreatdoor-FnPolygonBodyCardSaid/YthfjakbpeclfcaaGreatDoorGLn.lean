/-
  The lexer's next.
  The parser's first functions over a list of tokens.
-/
import Derived.Test.YthfjakbpeclfcaaGreatDoorGTt
import Derived.WideShapes
namespace Go.Proofs.YthfjakbpeclfcaaGreatDoor
open Go.RowKit Go

theorem Core.alloc {B P RD : Nat} {f : Flds} {w : World} (h : Core B P RD f w) (o : Obj) : Core B P RD f (w.alloc o) := by
  have hR : RD < w.heap.size := Lib.lt_of_heap h.r
  refine ⟨h.b.alloc o, Nat.le_trans h.hs ((Below.refl B w).alloc h.hs o).size, h.hr, h.ne, ?_⟩
  rw [Below.heap_alloc _ _ _ hR]
  exact h.r
theorem Fr.alloc {B P RD : Nat} {w w1 : World} (h : Fr B P RD w w1) (hB : B ≤ w1.heap.size) (o : Obj) : Fr B P RD w (w1.alloc o) :=
  ⟨h.bel.alloc hB o, fun k x a b c d => by
    have := h.kept k x a b c d
    rw [Below.heap_alloc _ _ _ (Lib.lt_of_heap this)]
    exact this⟩

/-- The lexer: at i, the first token not yet scanned, or some. -/
def LxAt (B P RD : Nat) (T : ByteArray) (i : Nat) (w : World) : Prop :=
  ∃ f, f.T = T ∧ f.pk = ByteArray.empty ∧ (Rdy B P RD i f w ∨ (i = 0 ∧ f.ch = -2 ∧ Asc T ∧ NoU T ∧ T.size ≤ 100000 ∧ ∃ tk, SAt B P RD tk 0 f w))
theorem LxAt.core {B P RD i : Nat} {T : ByteArray} {w : World} (h : LxAt B P RD T i w) : ∃ f, Core B P RD f w ∧ f.pk = ByteArray.empty := by
  obtain ⟨f, h1, h2, h3 | ⟨-, -, -, -, -, tk, h3⟩⟩ := h
  · exact ⟨f, h3.core, h2⟩
  · exact ⟨f, h3.core, h2⟩
theorem Core.frz' {B P RD : Nat} {f : Flds} {w : World} (h : Core B P RD f w) : ∀ i, w.frozen? ⟨P, i, none⟩ = false := h.frz
/-- A new block, and the scanner's Error set to a function. -/
theorem LxAt.setErr {B P RD i : Nat} {T : ByteArray} {w : World} (h : LxAt B P RD T i w) (o : Obj) (v : Value) : LxAt B P RD T i ((w.setCell ⟨P, 1039, none⟩ v).alloc o) := by
  obtain ⟨f, h1, h2, h3 | ⟨k1, k2, k3, k4, k5, tk, h3⟩⟩ := h
  · exact ⟨{ f with err := v }, h1, h2, .inl (h3.same ((h3.core.s_err v).alloc o) rfl rfl rfl rfl rfl rfl rfl rfl)⟩
  · refine ⟨{ f with err := v }, h1, h2, .inr ⟨k1, k2, k3, k4, k5, tk, (h3.core.s_err v).alloc o, ?_⟩⟩
    obtain ⟨o', e, p, l, a1, a2, a3, a4, a5⟩ := h3.inv
    refine ⟨o', e, p, l, a1, ⟨a2.off, a2.fin, a2.pos, a2.hp, a2.he, a2.hT, a2.ri, a2.buf, a2.sen, a2.lcl⟩, a3, a4, ?_⟩
    cases tk with
    | none => exact a5
    | some t => exact a5
theorem LxAt.scan {B P RD i m n : Nat} {kd : Kd} {T : ByteArray} {w : World} (h : LxAt B P RD T i w) (hW : ScW B w) (hb : Blank T i m) (ht : TokAt T m n kd) :
    Calls Tryz.prog 74 #[.pointer (some ⟨P, 0, none⟩)] w fun en w' => ∃ t f', en = .returned (.int .i32 t) ∧ (t = -1 ↔ nxt T m = -1) ∧ Td B P RD m n f' w' ∧ f'.T = T ∧ f'.pk = ByteArray.empty ∧ Fr B P RD w w' := by
  obtain ⟨f, h1, h2, h3 | ⟨rfl, k2, k3, k4, k5, tk, h3⟩⟩ := h
  · subst h1
    refine (scan_old B P RD f w i m n kd h3 hW hb ht).mono ?_
    rintro en w' ⟨t, f', rfl, a1, a2, a3, -, -, a4, a5⟩
    exact ⟨t, f', rfl, a1, a2, a3, a4.trans h2, a5⟩
  · subst h1
    refine (scan_new B P RD f w tk m n kd h3 k3 k4 k5 k2 hW hb ht).mono ?_
    rintro en w' ⟨t, f', rfl, a1, a2, a3, -, -, a4, a5⟩
    exact ⟨t, f', rfl, a1, a2, a3, a4.trans h2, a5⟩

/-- The lexer's error at the text's end. -/
structure LxW (B : Nat) (w : World) : Prop where
  sc : ScW B w
  ueof : w.cell? ⟨1, 0, none⟩ = some (.string ⟨#[117, 110, 101, 120, 112, 101, 99, 116, 101, 100, 32, 69, 79, 70]⟩)
theorem LxW.below {B : Nat} {w w' : World} (h : LxW B w) (hb : Below B w w') : LxW B w' :=
  ⟨h.sc.below hb, (hb.cell (p := ⟨1, 0, none⟩) (show 1 < B by have := h.sc.hB; omega)).trans h.ueof⟩

def eofV : Value := .iface 145 (.agg #[.string ⟨#[117, 110, 101, 120, 112, 101, 99, 116, 101, 100, 32, 69, 79, 70]⟩])

set_option maxHeartbeats 2000000 in
set_option maxRecDepth 100000 in
theorem ln_tok (B P RD : Nat) (T : ByteArray) (w : World) (i m n : Nat) (kd : Kd) (h : LxAt B P RD T i w) (hW : LxW B w) (hb : Blank T i m) (ht : TokAt T m n kd) (hk : nxt T m ≠ -1) :
    Calls Tryz.prog 65 #[.pointer (some ⟨P, 0, none⟩)] w fun en w' => en = .returned (.tuple #[.string (sub T m n), .nilIface]) ∧ LxAt B P RD T n w' ∧ Fr B P RD w w' := by
  obtain ⟨f, hc, hpk⟩ := h.core
  have c1 : w.cell? ⟨P, 1048, none⟩ = some (.string ByteArray.empty) := hpk ▸ hc.c_pk
  have c2 := hc.c_err
  have z := hc.frz
  have hP := hc.hP
  have hPl := hc.b.lt
  have hBs := hc.hs
  have hcA := hc.alloc (.cells #[.nilIface] 43)
  have hst := fun (W : World) => run_store Tryz.prog W ⟨P, 1039, none⟩ (.func (.func 73) #[] #[.pointer (some ⟨w.heap.size, 0, none⟩)]) .plain rfl
  have hLX := h.setErr (.cells #[.nilIface] 43) (.func (.func 73) #[] #[.pointer (some ⟨w.heap.size, 0, none⟩)])
  have hFA : Fr B P RD w ((w.setCell ⟨P, 1039, none⟩ (.func (.func 73) #[] #[.pointer (some ⟨w.heap.size, 0, none⟩)])).alloc (.cells #[.nilIface] 43)) :=
    ((Fr.refl (B := B) (P := P) (RD := RD) (w := w)).sP hP 1039 _).alloc (by simpa [World.setCell] using hBs) _
  have hnil : ((w.setCell ⟨P, 1039, none⟩ (.func (.func 73) #[] #[.pointer (some ⟨w.heap.size, 0, none⟩)])).alloc (.cells #[.nilIface] 43)).heap[w.heap.size]? = some (.cells #[.nilIface] 43 (0, 0)) := by
    have := heap_alloc_new (w.setCell ⟨P, 1039, none⟩ (.func (.func 73) #[] #[.pointer (some ⟨w.heap.size, 0, none⟩)])) (.cells #[.nilIface] 43)
    rw [show (w.setCell ⟨P, 1039, none⟩ (.func (.func 73) #[] #[.pointer (some ⟨w.heap.size, 0, none⟩)])).heap.size = w.heap.size from by simp [World.setCell]] at this
    exact this
  have hPne : w.heap.size ≠ P := by omega
  have hRDl : w.heap.size ≠ RD := by have := Lib.lt_of_heap hc.r; omega
  have hsc := hLX.scan (hW.sc.below hFA.bel) hb ht
  have HFA := Lib.hid hFA
  have HNIL := Lib.hid hnil
  have HSC := Lib.hid hsc
  have HK := Lib.hid hk
  clear h hW hc hpk hcA hLX hFA hnil hsc hb ht hk
  go_enter Tryz.func65, Tryz.ntmps65
  go_wp2_with fail
  refine HSC.out.mono ?_
  rintro e w1 ⟨t, f1, rfl, a1, a2, a3, a4, a5⟩
  have ht : (t == -1) = false := by
    have : t ≠ -1 := fun h => HK.out (a1.1 h)
    simpa using this
  have hfr := HFA.out.trans a5
  have hce : w1.cell? ⟨w.heap.size, 0, none⟩ = some .nilIface := by
    have := a5.kept w.heap.size _ HNIL.out hPne hRDl (fun cs fz e => by injection e with _ e _; exact absurd e (by decide))
    rw [Lib.cell_of_heap this]
    rfl
  have htt := tt_any B P RD f1 w1 m n a2
  rw [a3] at htt
  have HTT := Lib.hid htt
  have HFR := Lib.hid hfr
  have HA3 := Lib.hid a3
  have HA4 := Lib.hid a4
  clear a1 a2 a3 a4 a5 htt hfr hst c1 c2 z
  go_wp2_with fail
  refine HTT.out.mono ?_
  rintro e w2 ⟨f2, rfl, b1, b2, b3, b4, b5, b6⟩
  go_wp2
  refine bodyPost_ret (results_tmp2 rfl _ _ _) rfl ?_
  exact ⟨rfl, ⟨f2, b2, b5.trans HA4.out, .inl b1⟩, HFR.out.trans b6⟩

set_option maxHeartbeats 2000000 in
set_option maxRecDepth 100000 in
theorem ln_eof (B P RD : Nat) (T : ByteArray) (w : World) (i m n : Nat) (kd : Kd) (h : LxAt B P RD T i w) (hW : LxW B w) (hb : Blank T i m) (ht : TokAt T m n kd) (hk : nxt T m = -1) :
    Calls Tryz.prog 65 #[.pointer (some ⟨P, 0, none⟩)] w fun en w' => en = .returned (.tuple #[.string ByteArray.empty, eofV]) ∧ Fr B P RD w w' := by
  obtain ⟨f, hc, hpk⟩ := h.core
  have c1 : w.cell? ⟨P, 1048, none⟩ = some (.string ByteArray.empty) := hpk ▸ hc.c_pk
  have c2 := hc.c_err
  have z := hc.frz
  have hP := hc.hP
  have hPl := hc.b.lt
  have hBs := hc.hs
  have hst := fun (W : World) => run_store Tryz.prog W ⟨P, 1039, none⟩ (.func (.func 73) #[] #[.pointer (some ⟨w.heap.size, 0, none⟩)]) .plain rfl
  have hLX := h.setErr (.cells #[.nilIface] 43) (.func (.func 73) #[] #[.pointer (some ⟨w.heap.size, 0, none⟩)])
  have hFA : Fr B P RD w ((w.setCell ⟨P, 1039, none⟩ (.func (.func 73) #[] #[.pointer (some ⟨w.heap.size, 0, none⟩)])).alloc (.cells #[.nilIface] 43)) :=
    ((Fr.refl (B := B) (P := P) (RD := RD) (w := w)).sP hP 1039 _).alloc (by simpa [World.setCell] using hBs) _
  have hnil : ((w.setCell ⟨P, 1039, none⟩ (.func (.func 73) #[] #[.pointer (some ⟨w.heap.size, 0, none⟩)])).alloc (.cells #[.nilIface] 43)).heap[w.heap.size]? = some (.cells #[.nilIface] 43 (0, 0)) := by
    have := heap_alloc_new (w.setCell ⟨P, 1039, none⟩ (.func (.func 73) #[] #[.pointer (some ⟨w.heap.size, 0, none⟩)])) (.cells #[.nilIface] 43)
    rw [show (w.setCell ⟨P, 1039, none⟩ (.func (.func 73) #[] #[.pointer (some ⟨w.heap.size, 0, none⟩)])).heap.size = w.heap.size from by simp [World.setCell]] at this
    exact this
  have hPne : w.heap.size ≠ P := by omega
  have hRDl : w.heap.size ≠ RD := by have := Lib.lt_of_heap hc.r; omega
  have hsc := hLX.scan (hW.sc.below hFA.bel) hb ht
  have HFA := Lib.hid hFA
  have HNIL := Lib.hid hnil
  have HSC := Lib.hid hsc
  have HK := Lib.hid hk
  have HW := Lib.hid hW
  clear h hW hc hpk hLX hFA hnil hsc hb ht hk
  go_enter Tryz.func65, Tryz.ntmps65
  go_wp2_with fail
  refine HSC.out.mono ?_
  rintro e w1 ⟨t, f1, rfl, a1, a2, a3, a4, a5⟩
  have ht : (t == -1) = true := by
    have : t = -1 := a1.2 HK.out
    simpa using this
  have hfr := HFA.out.trans a5
  have hce : w1.cell? ⟨w.heap.size, 0, none⟩ = some .nilIface := by
    have := a5.kept w.heap.size _ HNIL.out hPne hRDl (fun cs fz e => by injection e with _ e _; exact absurd e (by decide))
    rw [Lib.cell_of_heap this]
    rfl
  have hue := (HW.out.below hfr.bel).ueof
  have HFR := Lib.hid hfr
  clear a1 a2 a3 a4 a5 hfr hst c1 c2 z
  go_wp2
  go_quiet (fail)
  go_wp2
  refine bodyPost_ret (results_tmp2 rfl _ _ _) rfl ?_
  exact ⟨rfl, HFR.out.drewN _⟩
end Go.Proofs.YthfjakbpeclfcaaGreatDoor

namespace Go.Proofs.YthfjakbpeclfcaaGreatDoor
open Go.RowKit Go

/-- The tokens of a text from i on. -/
inductive Toks (T : ByteArray) : Nat → List ByteArray → Prop
  | nil (i m : Nat) (hb : Blank T i m) (ht : TokAt T m m .eof) (h : nxt T m = -1) : Toks T i []
  | cons (i m n : Nat) (kd : Kd) (l : List ByteArray) (hb : Blank T i m) (ht : TokAt T m n kd) (h : nxt T m ≠ -1) (hr : Toks T n l) : Toks T i (sub T m n :: l)
/-- The parser ahead of the tokens l. -/
structure PS (B P RD : Nat) (T : ByteArray) (l : List ByteArray) (w : World) : Prop where
  lx : ∃ i, LxAt B P RD T i w ∧ Toks T i l
  lw : LxW B w
def errV (v : Value) : Prop := ∃ s, v = .iface 145 (.agg #[.string s])
theorem eof_err : errV eofV := ⟨_, rfl⟩
/-- What a call of the parser's for one token yields. -/
def nextOut (B P RD : Nat) (T : ByteArray) (l : List ByteArray) (en : Ending) (w' : World) : Prop :=
  match l with
  | t :: r => en = .returned (.tuple #[.string t, .nilIface]) ∧ PS B P RD T r w'
  | [] => ∃ v, en = .returned (.tuple #[.string ByteArray.empty, v]) ∧ errV v
theorem ps_next (B P RD : Nat) (T : ByteArray) (l : List ByteArray) (w : World) (h : PS B P RD T l w) :
    Calls Tryz.prog 65 #[.pointer (some ⟨P, 0, none⟩)] w fun en w' => nextOut B P RD T l en w' ∧ Fr B P RD w w' := by
  obtain ⟨i, h1, h2⟩ := h.lx
  cases h2 with
  | nil _ m hb ht hk =>
    refine (ln_eof B P RD T w i m m .eof h1 h.lw hb ht hk).mono ?_
    rintro en w' ⟨rfl, hf⟩
    exact ⟨⟨_, rfl, eof_err⟩, hf⟩
  | cons _ m n kd r hb ht hk hr =>
    refine (ln_tok B P RD T w i m n kd h1 h.lw hb ht hk).mono ?_
    rintro en w' ⟨rfl, hl, hf⟩
    exact ⟨⟨rfl, ⟨n, hl, hr⟩, h.lw.below hf.bel⟩, hf⟩

theorem wbg_any (a b : ByteArray) (w : World) : Calls Tryz.prog 66 #[.string a, .string b] w fun en w' => (∃ v, en = .returned v ∧ errV v) ∧ w' = w := by
  go_enter Tryz.func66, Tryz.ntmps66
  go_wp2
  refine bodyPost_ret (results_tmp rfl _ _ _) rfl ?_
  exact ⟨⟨_, rfl, _, rfl⟩, rfl⟩

theorem str_ne {t x : ByteArray} (h : t ≠ x) {l : List UInt8} (hx : x.data.toList = l) : (t.toList == l) = false := by
  rw [beq_eq_false_iff_ne, ByteArray.toList_eq]
  intro e
  exact h (Go.WideShapes.bytes_inj (e.trans hx.symm))
theorem str_eq {t x : ByteArray} (h : t = x) {l : List UInt8} (hx : x.data.toList = l) : (t.toList == l) = true := by
  rw [h, ByteArray.toList_eq, hx]
  exact beq_self_eq_true _
def tEMPTY : ByteArray := ⟨#[69, 77, 80, 84, 89]⟩
def tLP : ByteArray := ⟨#[40]⟩
def tRP : ByteArray := ⟨#[41]⟩
def tCM : ByteArray := ⟨#[44]⟩
def tMN : ByteArray := ⟨#[45]⟩
def badStr (en : Ending) : Prop := ∃ s v, en = .returned (.tuple #[.string s, v]) ∧ errV v
/-- One token of two. -/
def twoOut (B P RD : Nat) (T : ByteArray) (x y : ByteArray) (l : List ByteArray) (en : Ending) (w' : World) : Prop :=
  match l with
  | t :: r => (t = x ∨ t = y) ∧ en = .returned (.tuple #[.string t, .nilIface]) ∧ PS B P RD T r w' ∨ t ≠ x ∧ t ≠ y ∧ badStr en
  | [] => badStr en
set_option maxHeartbeats 1000000 in
set_option maxRecDepth 100000 in
theorem p54 (B P RD : Nat) (T : ByteArray) (l : List ByteArray) (w : World) (h : PS B P RD T l w) :
    Calls Tryz.prog 54 #[.pointer (some ⟨P, 0, none⟩)] w fun en w' => twoOut B P RD T tEMPTY tLP l en w' ∧ Fr B P RD w w' := by
  have hn := ps_next B P RD T l w h
  clear h
  go_enter Tryz.func54, Tryz.ntmps54
  go_wp2_with fail
  refine hn.mono ?_
  rintro e w1 ⟨h1, hf⟩
  cases l with
  | nil =>
    obtain ⟨v, rfl, s, rfl⟩ := h1
    go_wp2
    refine bodyPost_ret (results_tmp2 rfl _ _ _) rfl ?_
    exact ⟨⟨_, _, rfl, _, rfl⟩, hf⟩
  | cons t r =>
    obtain ⟨rfl, hp⟩ := h1
    have HP := Lib.hid hp
    have HF := Lib.hid hf
    clear hp hf hn
    by_cases h1 : t = tEMPTY
    · have b1 : (t.toList == [69, 77, 80, 84, 89]) = true := str_eq h1 rfl
      have H1 := Lib.hid h1
      clear h1
      go_wp2
      refine bodyPost_ret (results_tmp2 rfl _ _ _) rfl ?_
      exact ⟨.inl ⟨.inl H1.out, rfl, HP.out⟩, HF.out⟩
    · have b1 : (t.toList == [69, 77, 80, 84, 89]) = false := str_ne h1 rfl
      have H1 := Lib.hid h1
      clear h1
      by_cases h2 : t = tLP
      · have b2 : (t.toList == [40]) = true := str_eq h2 rfl
        have H2 := Lib.hid h2
        clear h2
        go_wp2
        refine bodyPost_ret (results_tmp2 rfl _ _ _) rfl ?_
        exact ⟨.inl ⟨.inr H2.out, rfl, HP.out⟩, HF.out⟩
      · have b2 : (t.toList == [40]) = false := str_ne h2 rfl
        have H2 := Lib.hid h2
        clear h2
        go_wp2_with fail
        refine (wbg_any _ _ _).mono ?_
        rintro e w2 ⟨⟨v, rfl, s, rfl⟩, rfl⟩
        go_wp2
        refine bodyPost_ret (results_tmp2 rfl _ _ _) rfl ?_
        exact ⟨.inr ⟨H1.out, H2.out, _, _, rfl, _, rfl⟩, HF.out⟩
set_option maxHeartbeats 1000000 in
set_option maxRecDepth 100000 in
theorem p56 (B P RD : Nat) (T : ByteArray) (l : List ByteArray) (w : World) (h : PS B P RD T l w) :
    Calls Tryz.prog 56 #[.pointer (some ⟨P, 0, none⟩)] w fun en w' => twoOut B P RD T tRP tCM l en w' ∧ Fr B P RD w w' := by
  have hn := ps_next B P RD T l w h
  clear h
  go_enter Tryz.func56, Tryz.ntmps56
  go_wp2_with fail
  refine hn.mono ?_
  rintro e w1 ⟨h1, hf⟩
  cases l with
  | nil =>
    obtain ⟨v, rfl, s, rfl⟩ := h1
    go_wp2
    refine bodyPost_ret (results_tmp2 rfl _ _ _) rfl ?_
    exact ⟨⟨_, _, rfl, _, rfl⟩, hf⟩
  | cons t r =>
    obtain ⟨rfl, hp⟩ := h1
    have HP := Lib.hid hp
    have HF := Lib.hid hf
    clear hp hf hn
    by_cases h1 : t = tRP
    · have b1 : (t.toList == [41]) = true := str_eq h1 rfl
      have H1 := Lib.hid h1
      clear h1
      go_wp2
      refine bodyPost_ret (results_tmp2 rfl _ _ _) rfl ?_
      exact ⟨.inl ⟨.inl H1.out, rfl, HP.out⟩, HF.out⟩
    · have b1 : (t.toList == [41]) = false := str_ne h1 rfl
      have H1 := Lib.hid h1
      clear h1
      by_cases h2 : t = tCM
      · have b2 : (t.toList == [44]) = true := str_eq h2 rfl
        have H2 := Lib.hid h2
        clear h2
        go_wp2
        refine bodyPost_ret (results_tmp2 rfl _ _ _) rfl ?_
        exact ⟨.inl ⟨.inr H2.out, rfl, HP.out⟩, HF.out⟩
      · have b2 : (t.toList == [44]) = false := str_ne h2 rfl
        have H2 := Lib.hid h2
        clear h2
        go_wp2_with fail
        refine (wbg_any _ _ _).mono ?_
        rintro e w2 ⟨⟨v, rfl, s, rfl⟩, rfl⟩
        go_wp2
        refine bodyPost_ret (results_tmp2 rfl _ _ _) rfl ?_
        exact ⟨.inr ⟨H1.out, H2.out, _, _, rfl, _, rfl⟩, HF.out⟩
end Go.Proofs.YthfjakbpeclfcaaGreatDoor
