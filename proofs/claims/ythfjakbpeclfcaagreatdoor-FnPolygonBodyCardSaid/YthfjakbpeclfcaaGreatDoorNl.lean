/-
  The parser's nextSignedNumericLiteral.
-/
import Derived.Test.YthfjakbpeclfcaaGreatDoorGLn
import Derived.Test.YthfjakbpeclfcaaGreatDoorQu
namespace Go.Proofs.YthfjakbpeclfcaaGreatDoor
open Go.RowKit Go

theorem fb40 (n : Nat) (w : World) : Sem.run Tryz.prog (callFunc 40 #[.float .f64 n]) w = .ok (.value (.int .u64 n)) w := by
  rw [run_callFunc_extern (e := Extern.MathFloatBits.float64bits) Tryz.func40 (by kernel_rfl) (by kernel_rfl) (by kernel_rfl) (by kernel_rfl)]
  rfl
theorem ff121 (n : Int) (w : World) : Sem.run Tryz.prog (callFunc 121 #[.int .u64 n]) w = .ok (.value (.float .f64 n.toNat)) w := by
  rw [run_callFunc_extern (e := Extern.MathFloatBits.float64frombits) Tryz.func121 (by kernel_rfl) (by kernel_rfl) (by kernel_rfl) (by kernel_rfl)]
  rfl
attribute [local go_sem] fb40 ff121
theorem abs_pos (f : Nat) (hf : f < 9223372036854775808) (w : World) : Calls Tryz.prog 111 #[.float .f64 f] w fun e w' => e = .returned (.float .f64 f) ∧ w' = w := by
  have h : bits .andNot .u64 (f : Int) 9223372036854775808 = f := by
    have := u64_andNot_nat f 9223372036854775808 (by omega) (by decide)
    rw [show 18446744073709551615 - 9223372036854775808 = 2 ^ 63 - 1 from by decide, Nat.and_two_pow_sub_one_eq_mod, Nat.mod_eq_of_lt (by omega)] at this
    exact this
  go_enter Tryz.func111, Tryz.ntmps111
  go_wp2
  go_ret
  exact ⟨rfl, rfl⟩
theorem nan_fin (f : Nat) (hf : f < infR) (w : World) : Calls Tryz.prog 93 #[.float .f64 f] w fun e w' => e = .returned (.bool false) ∧ w' = w := by
  have h : FloatKind.f64.format.order f f = some .eq := order_self f hf
  go_enter Tryz.func93, Tryz.ntmps93
  go_wp2
  go_ret
  exact ⟨rfl, rfl⟩
theorem inf_fin (f : Nat) (hf : f < infR) (w : World) : Calls Tryz.prog 94 #[.float .f64 f, .int .i64 0] w fun e w' => e = .returned (.bool false) ∧ w' = w := by
  have h : (FloatKind.f64.format.order f 9218868437227405311 == some .gt) = false := by
    rw [beq_eq_false_iff_ne]
    exact (order_max f hf).1
  have ha := fun w => abs_pos f (by unfold infR at hf; omega) w
  have HF := Lib.hid hf
  clear hf
  go_enter Tryz.func94, Tryz.ntmps94
  go_wp2_with (go_at_call 111; refine (ha _).mono ?_; rintro e w' ⟨rfl, rfl⟩)
  go_ret
  exact ⟨rfl, rfl⟩
theorem nan_nan (w : World) : Calls Tryz.prog 93 #[.float .f64 9221120237041090561] w fun e w' => e = .returned (.bool true) ∧ w' = w := by
  have h : (FloatKind.f64.format.order 9221120237041090561 9221120237041090561 != some .eq) = true := by decide +kernel
  go_enter Tryz.func93, Tryz.ntmps93
  go_wp2
  go_ret
  exact ⟨rfl, rfl⟩
theorem nan_inf (w : World) : Calls Tryz.prog 93 #[.float .f64 9218868437227405312] w fun e w' => e = .returned (.bool false) ∧ w' = w := by
  have h : (FloatKind.f64.format.order 9218868437227405312 9218868437227405312 != some .eq) = false := by decide +kernel
  go_enter Tryz.func93, Tryz.ntmps93
  go_wp2
  go_ret
  exact ⟨rfl, rfl⟩
theorem inf_inf (w : World) : Calls Tryz.prog 94 #[.float .f64 9218868437227405312, .int .i64 0] w fun e w' => e = .returned (.bool true) ∧ w' = w := by
  have h : (FloatKind.f64.format.order 9218868437227405312 9218868437227405311 == some .gt) = true := by decide +kernel
  have ha := fun w => abs_pos 9218868437227405312 (by decide) w
  go_enter Tryz.func94, Tryz.ntmps94
  go_wp2_with (go_at_call 111; refine (ha _).mono ?_; rintro e w' ⟨rfl, rfl⟩)
  go_ret
  exact ⟨rfl, rfl⟩

theorem Core.far {B P RD : Nat} {f : Flds} {w w' : World} (h : Core B P RD f w) (hb : Below w.heap.size w w') : Core B P RD f w' := by
  refine ⟨h.b.old hb, Nat.le_trans h.hs hb.size, h.hr, h.ne, ?_⟩
  rw [hb.block RD (Lib.lt_of_heap h.r)]
  exact h.r
theorem LxAt.far {B P RD i : Nat} {T : ByteArray} {w w' : World} (h : LxAt B P RD T i w) (hb : Below w.heap.size w w') : LxAt B P RD T i w' := by
  obtain ⟨f, h1, h2, h3 | ⟨k1, k2, k3, k4, k5, tk, h3⟩⟩ := h
  · exact ⟨f, h1, h2, .inl (h3.same (h3.core.far hb) rfl rfl rfl rfl rfl rfl rfl rfl)⟩
  · exact ⟨f, h1, h2, .inr ⟨k1, k2, k3, k4, k5, tk, h3.core.far hb, h3.inv⟩⟩
theorem PS.hs {B P RD : Nat} {T : ByteArray} {l : List ByteArray} {w : World} (h : PS B P RD T l w) : B ≤ w.heap.size := by
  obtain ⟨i, h1, -⟩ := h.lx
  obtain ⟨f, hc, -⟩ := h1.core
  exact hc.hs
theorem PS.far {B P RD : Nat} {T : ByteArray} {l : List ByteArray} {w w' : World} (h : PS B P RD T l w) (hb : Below w.heap.size w w') : PS B P RD T l w' := by
  obtain ⟨i, h1, h2⟩ := h.lx
  exact ⟨⟨i, h1.far hb, h2⟩, h.lw.below ⟨hb.os, hb.tape, hb.output, hb.size, fun k hk => hb.block k (Nat.lt_of_lt_of_le hk h.hs)⟩⟩
theorem Fr.far {B P RD : Nat} {w w' : World} (hB : B ≤ w.heap.size) (hb : Below w.heap.size w w') : Fr B P RD w w' :=
  ⟨⟨hb.os, hb.tape, hb.output, hb.size, fun k hk => hb.block k (Nat.lt_of_lt_of_le hk hB)⟩, fun k _ a _ _ _ => (hb.block k (Lib.lt_of_heap a)).trans a⟩

/-- What ParseFloat makes of a token. -/
inductive NTok (t : ByteArray) : Option Nat → Prop
  | ok (M E : List UInt8) (x : Int) (h : t.data.toList = M ++ E) (hM : okM false M) (hg : (M.foldl rStep rs0).dg = true) (hE : ExpIs E x) (hv : (atV M x).2 = .nilIface) : NTok t (some (atV M x).1)
  | rng (M E : List UInt8) (x : Int) (h : t.data.toList = M ++ E) (hM : okM false M) (hg : (M.foldl rStep rs0).dg = true) (hE : ExpIs E x) (hv : (atV M x).2 = .iface 162 (.int .i64 1)) : NTok t none
  | bad (h : BadS t) : NTok t none
structure NT (t : ByteArray) (r : Option Nat) : Prop where
  tok : NTok t r
  sz : t.size ≤ 100000
  pr : PrA t
structure NumP (B : Nat) (w : World) : Prop where
  num : NumW B w
  er : ErW B w
theorem NumP.below {B : Nat} {w w' : World} (h : NumP B w) (hb : Below B w w') : NumP B w' := ⟨h.num.below hb, h.er.below hb⟩
def pfOut (B : Nat) (t : ByteArray) (r : Option Nat) (w : World) (e : Ending) (w' : World) : Prop :=
  match r with
  | some x => x < infR ∧ e = .returned (.tuple #[.float .f64 x, .nilIface])
  | none => ∃ (f : Nat) (er : Value), e = .returned (.tuple #[.float .f64 f, er]) ∧ (er = .nilIface ∧ oddV f ∨ NumErr B t w w' er)
theorem pf_tok (B : Nat) (w : World) (t : ByteArray) (r : Option Nat) (h : NT t r) (hW : NumP B w) :
    Calls Tryz.prog 72 #[.string t, .int .i64 64] w fun e w' => pfOut B t r w e w' ∧ Below w.heap.size w w' := by
  obtain ⟨ht, hs, -⟩ := h
  cases ht with
  | ok M E x h hM hg hE hv =>
    refine (parse_num B w t false M E x hW.num hW.er h hM hg hE hs).mono ?_
    rintro e w' ⟨er, rfl, ho, hb⟩
    rcases ho with ⟨-, rfl⟩ | ⟨h2, -⟩
    · exact ⟨⟨(atV_ok M x hM).2.1 hv, by rw [sg_false]⟩, hb⟩
    · rw [hv] at h2
      cases h2
  | rng M E x h hM hg hE hv =>
    refine (parse_num B w t false M E x hW.num hW.er h hM hg hE hs).mono ?_
    rintro e w' ⟨er, rfl, ho, hb⟩
    rcases ho with ⟨h2, -⟩ | ⟨-, h2⟩
    · rw [hv] at h2
      cases h2
    · exact ⟨⟨_, er, rfl, .inr h2⟩, hb⟩
  | bad h =>
    exact parse_bad B w t h hs hW.er hW.num.hs

def nlit (rd : ByteArray → Option Nat) : List ByteArray → Option (Nat × List ByteArray)
  | [] => none
  | t :: r => if t = tMN then (match r with | [] => none | u :: r' => (rd u).map fun x => (sg true x, r')) else (rd t).map fun x => (x, r)
def litOut (B P RD : Nat) (T : ByteArray) (rd : ByteArray → Option Nat) (l : List ByteArray) (en : Ending) (w' : World) : Prop :=
  match nlit rd l with
  | some (v, r) => en = .returned (.tuple #[.float .f64 v, .nilIface]) ∧ PS B P RD T r w'
  | none => ∃ f v, en = .returned (.tuple #[.float .f64 f, v]) ∧ errV v
section
variable {B P RD : Nat} {T : ByteArray} {rd : ByteArray → Option Nat} {l r : List ByteArray} {en : Ending} {w' : World} {t u : ByteArray} {v : Nat}
theorem nlit_m0 (h : t = tMN) : nlit rd [t] = none := by simp [nlit, h]
theorem nlit_m (h : t = tMN) : nlit rd (t :: u :: r) = (rd u).map fun x => (sg true x, r) := by simp [nlit, h]
theorem nlit_p (h : t ≠ tMN) : nlit rd (t :: r) = (rd t).map fun x => (x, r) := by simp [nlit, h]
theorem litOut_none (h : nlit rd l = none) (he : ∃ f v, en = .returned (.tuple #[.float .f64 f, v]) ∧ errV v) : litOut B P RD T rd l en w' := by unfold litOut; rw [h]; exact he
theorem litOut_some (h : nlit rd l = some (v, r)) (he : en = .returned (.tuple #[.float .f64 v, .nilIface])) (hp : PS B P RD T r w') : litOut B P RD T rd l en w' := by unfold litOut; rw [h]; exact ⟨he, hp⟩
end
theorem m163 (a : Option Addr) (w : World) : Sem.run Tryz.prog (method 386 163 (.pointer a) "Error") w = .ok (196, .pointer a) w := by kernel_rfl

set_option maxHeartbeats 4000000 in
set_option maxRecDepth 100000 in
theorem p76 (B P RD : Nat) (T : ByteArray) (rd : ByteArray → Option Nat) (l : List ByteArray) (w : World) (h : PS B P RD T l w) (hN : NumP B w) (hr : ∀ t, t ∈ l → NT t (rd t)) :
    Calls Tryz.prog 76 #[.pointer (some ⟨P, 0, none⟩)] w fun en w' => litOut B P RD T rd l en w' ∧ Fr B P RD w w' := by
  have hn := ps_next B P RD T l w h
  have HN := Lib.hid hN
  have HR := Lib.hid hr
  have HH := Lib.hid h
  clear h hN hr
  go_enter Tryz.func76, Tryz.ntmps76
  go_wp2_with fail
  refine hn.mono ?_
  rintro e w1 ⟨h1, hf⟩
  cases l with
  | nil =>
    obtain ⟨v, rfl, s, rfl⟩ := h1
    go_wp2
    refine bodyPost_ret (results_tmp2 rfl _ _ _) rfl ?_
    exact ⟨⟨_, _, rfl, _, rfl⟩, hf⟩
  | cons t r =>
    obtain ⟨rfl, hp⟩ := h1
    by_cases h1 : t = tMN
    · have b1 : (t.toList == [45]) = true := str_eq h1 rfl
      have hn2 := ps_next B P RD T r w1 hp
      have HF := Lib.hid hf
      have H1 := Lib.hid h1
      have HP := Lib.hid hp
      clear hp hf hn h1
      go_wp2_with fail
      refine hn2.mono ?_
      rintro e w2 ⟨h2, hf2⟩
      cases r with
      | nil =>
        obtain ⟨v, rfl, s, rfl⟩ := h2
        go_wp2
        refine bodyPost_ret (results_tmp2 rfl _ _ _) rfl ?_
        exact ⟨litOut_none (nlit_m0 H1.out) ⟨_, _, rfl, _, rfl⟩, HF.out.trans hf2⟩
      | cons u r' =>
        obtain ⟨rfl, hp2⟩ := h2
        have HFR := Lib.hid (HF.out.trans hf2)
        have HP2 := Lib.hid hp2
        clear hp2 hn2 hf2 HF HP
        have hpf := pf_tok B w2 u (rd u) (HR.out u (by simp)) (HN.out.below HFR.out.bel)
        have hne : ∀ w' er, NumErr B u w2 w' er → ∃ N t, er = .iface 163 (.pointer (some ⟨N, 0, none⟩)) ∧ Calls Tryz.prog 196 #[.pointer (some ⟨N, 0, none⟩)] w' fun e w'' => e = .returned (.string t) ∧ Below w'.heap.size w' w'' :=
          fun w' er h => ne_text B u w2 w' er h (HR.out u (by simp)).sz (HR.out u (by simp)).pr
        have HNE := Lib.hid hne
        clear hne
        go_wp2_with fail
        refine hpf.mono ?_
        rintro e w3 ⟨h3, hb3⟩
        have HF3 := Lib.hid (HFR.out.trans (Fr.far HP2.out.hs hb3))
        have HP3 := Lib.hid (HP2.out.far hb3)
        clear hpf
        cases hru : rd u with
        | some x =>
          rw [hru] at h3
          obtain ⟨hx, rfl⟩ := h3
          have hnan := nan_fin x hx
          have hinf := inf_fin x hx
          have HX := Lib.hid hx
          have HU := Lib.hid hru
          clear hx hb3 hru
          have hm : ∀ W, (binOp .mul 79 (.float .f64 x) (.float .f64 13830554455654793216)).run Tryz.prog W = .ok (.float .f64 (sg true x)) W := fun W => run_float_arith W .mul 79 .f64 _ _ _ (mul_m1 x HX.out)
          go_wp2_with (first | (go_at_call 93; refine (hnan _).mono ?_; rintro e w' ⟨rfl, rfl⟩) | (go_at_call 94; refine (hinf _).mono ?_; rintro e w' ⟨rfl, rfl⟩))
          refine bodyPost_ret (results_tmp2 rfl _ _ _) rfl ?_
          exact ⟨litOut_some ((nlit_m H1.out).trans (by rw [HU.out]; rfl)) rfl HP3.out, HF3.out⟩
        | none =>
          rw [hru] at h3
          obtain ⟨f, er, rfl, ho⟩ := h3
          have HU := Lib.hid hru
          clear hru hb3
          rcases ho with ⟨rfl, ho⟩ | ho
          · rcases ho with rfl | rfl
            · go_wp2_with (first | (go_at_call 93; refine (nan_inf _).mono ?_; rintro e w' ⟨rfl, rfl⟩) | (go_at_call 94; refine (inf_inf _).mono ?_; rintro e w' ⟨rfl, rfl⟩))
              refine bodyPost_ret (results_tmp2 rfl _ _ _) rfl ?_
              exact ⟨litOut_none ((nlit_m H1.out).trans (by rw [HU.out]; rfl)) ⟨_, _, rfl, _, rfl⟩, HF3.out⟩
            · go_wp2_with (first | (go_at_call 93; refine (nan_nan _).mono ?_; rintro e w' ⟨rfl, rfl⟩))
              refine bodyPost_ret (results_tmp2 rfl _ _ _) rfl ?_
              exact ⟨litOut_none ((nlit_m H1.out).trans (by rw [HU.out]; rfl)) ⟨_, _, rfl, _, rfl⟩, HF3.out⟩
          · obtain ⟨N, tx, rfl, hT⟩ := HNE.out w3 er ho
            have hm := m163 (some ⟨N, 0, none⟩)
            clear ho
            go_wp2_with fail
            refine hT.mono ?_
            rintro e w4 ⟨rfl, hb4⟩
            go_wp2
            refine bodyPost_ret (results_tmp2 rfl _ _ _) rfl ?_
            exact ⟨litOut_none ((nlit_m H1.out).trans (by rw [HU.out]; rfl)) ⟨_, _, rfl, _, rfl⟩, HF3.out.trans (Fr.far HP3.out.hs hb4)⟩
    · have b1 : (t.toList == [45]) = false := str_ne h1 rfl
      have HFR := Lib.hid hf
      have H1 := Lib.hid h1
      have HP2 := Lib.hid hp
      clear hp hf hn h1
      have hpf := pf_tok B w1 t (rd t) (HR.out t (by simp)) (HN.out.below HFR.out.bel)
      have hne : ∀ w' er, NumErr B t w1 w' er → ∃ N t, er = .iface 163 (.pointer (some ⟨N, 0, none⟩)) ∧ Calls Tryz.prog 196 #[.pointer (some ⟨N, 0, none⟩)] w' fun e w'' => e = .returned (.string t) ∧ Below w'.heap.size w' w'' :=
        fun w' er h => ne_text B t w1 w' er h (HR.out t (by simp)).sz (HR.out t (by simp)).pr
      have HNE := Lib.hid hne
      clear hne
      go_wp2_with fail
      refine hpf.mono ?_
      rintro e w3 ⟨h3, hb3⟩
      have HF3 := Lib.hid (HFR.out.trans (Fr.far HP2.out.hs hb3))
      have HP3 := Lib.hid (HP2.out.far hb3)
      clear hpf
      cases hru : rd t with
      | some x =>
        rw [hru] at h3
        obtain ⟨hx, rfl⟩ := h3
        have hnan := nan_fin x hx
        have hinf := inf_fin x hx
        have HX := Lib.hid hx
        have HU := Lib.hid hru
        clear hx hb3 hru
        go_wp2_with (first | (go_at_call 93; refine (hnan _).mono ?_; rintro e w' ⟨rfl, rfl⟩) | (go_at_call 94; refine (hinf _).mono ?_; rintro e w' ⟨rfl, rfl⟩))
        refine bodyPost_ret (results_tmp2 rfl _ _ _) rfl ?_
        exact ⟨litOut_some ((nlit_p H1.out).trans (by rw [HU.out]; rfl)) rfl HP3.out, HF3.out⟩
      | none =>
        rw [hru] at h3
        obtain ⟨f, er, rfl, ho⟩ := h3
        have HU := Lib.hid hru
        clear hru hb3
        rcases ho with ⟨rfl, ho⟩ | ho
        · rcases ho with rfl | rfl
          · go_wp2_with (first | (go_at_call 93; refine (nan_inf _).mono ?_; rintro e w' ⟨rfl, rfl⟩) | (go_at_call 94; refine (inf_inf _).mono ?_; rintro e w' ⟨rfl, rfl⟩))
            refine bodyPost_ret (results_tmp2 rfl _ _ _) rfl ?_
            exact ⟨litOut_none ((nlit_p H1.out).trans (by rw [HU.out]; rfl)) ⟨_, _, rfl, _, rfl⟩, HF3.out⟩
          · go_wp2_with (first | (go_at_call 93; refine (nan_nan _).mono ?_; rintro e w' ⟨rfl, rfl⟩))
            refine bodyPost_ret (results_tmp2 rfl _ _ _) rfl ?_
            exact ⟨litOut_none ((nlit_p H1.out).trans (by rw [HU.out]; rfl)) ⟨_, _, rfl, _, rfl⟩, HF3.out⟩
        · obtain ⟨N, tx, rfl, hT⟩ := HNE.out w3 er ho
          have hm := m163 (some ⟨N, 0, none⟩)
          clear ho
          go_wp2_with fail
          refine hT.mono ?_
          rintro e w4 ⟨rfl, hb4⟩
          go_wp2
          refine bodyPost_ret (results_tmp2 rfl _ _ _) rfl ?_
          exact ⟨litOut_none ((nlit_p H1.out).trans (by rw [HU.out]; rfl)) ⟨_, _, rfl, _, rfl⟩, HF3.out.trans (Fr.far HP3.out.hs hb4)⟩
end Go.Proofs.YthfjakbpeclfcaaGreatDoor
