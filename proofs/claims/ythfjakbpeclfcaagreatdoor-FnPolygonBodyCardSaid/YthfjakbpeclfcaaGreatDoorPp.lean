/-
  The parser's nextPointAppend.
-/
import Derived.Test.YthfjakbpeclfcaaGreatDoorNl
import Derived.OwnWalk
import Derived.Deep.AppendLies
namespace Go.Proofs.YthfjakbpeclfcaaGreatDoor
open Go.RowKit Go

def dimW (d : Nat) : Nat := if d = 0 then 2 else if d = 3 then 4 else 3
theorem dim_ix (d : Nat) (hd : d < 4) (w : World) : Sem.run Tryz.prog (Instr.index 149 (.agg #[.int .i64 2, .int .i64 3, .int .i64 3, .int .i64 4]) (.int .u8 d)) w = .ok (.int .i64 (dimW d)) w := by
  have h0 : Sem.run Tryz.prog (Instr.index 149 (.agg #[.int .i64 2, .int .i64 3, .int .i64 3, .int .i64 4]) (.int .u8 0)) w = .ok (.int .i64 2) w := by kernel_rfl
  have h1 : Sem.run Tryz.prog (Instr.index 149 (.agg #[.int .i64 2, .int .i64 3, .int .i64 3, .int .i64 4]) (.int .u8 1)) w = .ok (.int .i64 3) w := by kernel_rfl
  have h2 : Sem.run Tryz.prog (Instr.index 149 (.agg #[.int .i64 2, .int .i64 3, .int .i64 3, .int .i64 4]) (.int .u8 2)) w = .ok (.int .i64 3) w := by kernel_rfl
  have h3 : Sem.run Tryz.prog (Instr.index 149 (.agg #[.int .i64 2, .int .i64 3, .int .i64 3, .int .i64 4]) (.int .u8 3)) w = .ok (.int .i64 4) w := by kernel_rfl
  have : d = 0 ∨ d = 1 ∨ d = 2 ∨ d = 3 := by omega
  rcases this with rfl | rfl | rfl | rfl
  · exact h0
  · exact h1
  · exact h2
  · exact h3
set_option maxRecDepth 100000 in
theorem dim_any (d : Nat) (hd : d < 4) (w : World) : Calls Tryz.prog 71 #[.int .u8 d] w fun e w' => e = .returned (.int .i64 (dimW d)) ∧ w' = w := by
  have h := dim_ix d hd
  go_enter Tryz.func71, Tryz.ntmps71
  go_wp2
  go_ret
  exact ⟨rfl, rfl⟩
set_option maxRecDepth 100000 in
theorem is3_any (d : Nat) (hd : d < 4) (w : World) : Calls Tryz.prog 62 #[.int .u8 d] w fun e w' => e = .returned (.bool (d == 1 || d == 3)) ∧ w' = w := by
  have : d = 0 ∨ d = 1 ∨ d = 2 ∨ d = 3 := by omega
  rcases this with rfl | rfl | rfl | rfl
  all_goals
    go_enter Tryz.func62, Tryz.ntmps62
    go_wp2
    go_ret
    exact ⟨rfl, rfl⟩
set_option maxRecDepth 100000 in
theorem ism_any (d : Nat) (hd : d < 4) (w : World) : Calls Tryz.prog 63 #[.int .u8 d] w fun e w' => e = .returned (.bool (d == 2 || d == 3)) ∧ w' = w := by
  have : d = 0 ∨ d = 1 ∨ d = 2 ∨ d = 3 := by omega
  rcases this with rfl | rfl | rfl | rfl
  all_goals
    go_enter Tryz.func63, Tryz.ntmps63
    go_wp2
    go_ret
    exact ⟨rfl, rfl⟩

/-- A frame: the blocks below X but the parser's. -/
structure FrX (B P RD X : Nat) (w w' : World) : Prop where
  bel : Below B w w'
  kept : ∀ k x, w.heap[k]? = some x → k < X → k ≠ P → k ≠ RD → (∀ cs fz, x ≠ .cells cs 5 fz) → w'.heap[k]? = some x
section
variable {B P RD X : Nat} {w w1 w2 : World}
theorem FrX.refl : FrX B P RD X w w := ⟨Below.refl B w, fun _ _ h _ _ _ _ => h⟩
theorem FrX.trans (h : FrX B P RD X w w1) (k : FrX B P RD X w1 w2) : FrX B P RD X w w2 := ⟨h.bel.trans k.bel, fun i x a b c d e => k.kept i x (h.kept i x a b c d e) b c d e⟩
theorem Fr.x (h : Fr B P RD w w1) (X : Nat) : FrX B P RD X w w1 := ⟨h.bel, fun k x a _ b c d => h.kept k x a b c d⟩
theorem FrX.fr (h : FrX B P RD X w w1) (hX : w.heap.size ≤ X) : Fr B P RD w w1 := ⟨h.bel, fun k x a b c d => h.kept k x a (Nat.lt_of_lt_of_le (Lib.lt_of_heap a) hX) b c d⟩
theorem FrX.mono {Y : Nat} (h : FrX B P RD X w w1) (hY : Y ≤ X) : FrX B P RD Y w w1 := ⟨h.bel, fun k x a b c d e => h.kept k x a (Nat.lt_of_lt_of_le b hY) c d e⟩
/-- An append onto a row from X on. -/
theorem FrX.grown {row : Option Nat} (h : w.grownBy w1 row) (hr : ∀ k, row = some k → X ≤ k) (hX : B ≤ X) (hB : B ≤ w.heap.size) : FrX B P RD X w w1 := by
  refine ⟨(Below.refl B w).grown h hB (fun k hk => Nat.le_trans hX (hr k hk)), fun k x a b _ _ _ => ?_⟩
  rw [h.block k (Lib.lt_of_heap a) (fun e => by have := hr k e.symm; omega)]
  exact a
theorem ownsRow_fr {e size n : Nat} {v : Value} {xs : List Value} (h : w.ownsRow X e size v n xs) (hf : Fr B P RD w w1) (hP : P < X) (hR : RD < X) (he : e ≠ 5) : w1.ownsRow X e size v n xs := by
  refine ⟨h.1, ?_⟩
  rcases h.2 with hn | ⟨g, cap, cur, rfl, hb, hg, rest⟩
  · exact .inl hn
  · exact .inr ⟨g, cap, cur, rfl, hb, hf.kept g _ hg (by omega) (by omega) (fun cs fz h => by injection h with _ h _; exact he h), rest⟩
end
def fl (xs : List Nat) : List Value := xs.map fun x => .float .f64 x
theorem fl_len (xs : List Nat) : (fl xs).length = xs.length := by simp [fl]
theorem fl_snoc (xs ys : List Nat) (y : Nat) : fl (xs ++ ys) ++ [.float .f64 y] = fl (xs ++ (ys ++ [y])) := by simp [fl]

def nnum (rd : ByteArray → Option Nat) : Nat → List ByteArray → Option (List Nat × List ByteArray)
  | 0, l => some ([], l)
  | k + 1, l => match nlit rd l with
    | none => none
    | some (x, r) => match nnum rd k r with
      | none => none
      | some (xs, r') => some (x :: xs, r')
theorem nlit_sub {rd : ByteArray → Option Nat} {l r : List ByteArray} {x : Nat} (h : nlit rd l = some (x, r)) : (∃ p, l = p ++ r) ∧ r.length < l.length := by
  cases l with
  | nil => cases h
  | cons t q =>
    by_cases ht : t = tMN
    · cases q with
      | nil => rw [nlit_m0 ht] at h; cases h
      | cons u q' =>
        rw [nlit_m ht] at h
        cases hu : rd u with
        | none => rw [hu] at h; cases h
        | some y =>
          rw [hu] at h
          injection h with h
          injection h with _ h
          subst h
          exact ⟨⟨[t, u], rfl⟩, by simp only [List.length_cons]; omega⟩
    · rw [nlit_p ht] at h
      cases hu : rd t with
      | none => rw [hu] at h; cases h
      | some y =>
        rw [hu] at h
        injection h with h
        injection h with _ h
        subst h
        exact ⟨⟨[t], rfl⟩, by simp only [List.length_cons]; omega⟩
theorem nnum_sub {rd : ByteArray → Option Nat} : ∀ {k : Nat} {l r : List ByteArray} {xs : List Nat}, nnum rd k l = some (xs, r) → (∃ p, l = p ++ r) ∧ r.length + k ≤ l.length ∧ xs.length = k
  | 0, l, r, xs, h => by
    injection h with h
    injection h with h1 h2
    subst h1 h2
    exact ⟨⟨[], rfl⟩, Nat.le_refl _, rfl⟩
  | k + 1, l, r, xs, h => by
    unfold nnum at h
    cases hl : nlit rd l with
    | none => rw [hl] at h; cases h
    | some z =>
      obtain ⟨x, q⟩ := z
      rw [hl] at h
      simp only at h
      cases hk : nnum rd k q with
      | none => rw [hk] at h; cases h
      | some z =>
        obtain ⟨ys, q'⟩ := z
        rw [hk] at h
        simp only [Option.some.injEq, Prod.mk.injEq] at h
        obtain ⟨rfl, rfl⟩ := h
        obtain ⟨⟨p1, rfl⟩, h1⟩ := nlit_sub hl
        obtain ⟨⟨p2, rfl⟩, h2, h3⟩ := nnum_sub hk
        exact ⟨⟨p1 ++ p2, by simp⟩, by simp only [List.length_append] at *; omega, by simp [h3]⟩

theorem inf79 : (Tryz.prog.info? 79).map (fun i => (i.zero, i.size, i.bytes)) = some (some (.float .f64 0), 1, 8) := by kernel_rfl
def ptOut (B P RD X : Nat) (T : ByteArray) (rd : ByteArray → Option Nat) (k : Nat) (xs : List Nat) (l : List ByteArray) (en : Ending) (w' : World) : Prop :=
  match nnum rd k l with
  | some (ys, r) => ∃ v, en = .returned (.tuple #[v, .nilIface]) ∧ w'.ownsRow X 79 1 v (xs.length + ys.length) (fl (xs ++ ys)) ∧ PS B P RD T r w'
  | none => ∃ u v, en = .returned (.tuple #[u, v]) ∧ errV v

section
variable {B P RD X k : Nat} {T : ByteArray} {rd : ByteArray → Option Nat} {l r q : List ByteArray} {en : Ending} {w' : World} {xs ys : List Nat} {x : Nat}
theorem nnum_none (h : nlit rd r = none) (hk : 0 < k) : nnum rd k r = none := by
  obtain ⟨n, rfl⟩ : ∃ n, k = n + 1 := ⟨k - 1, by omega⟩
  unfold nnum
  rw [h]
theorem nnum_step (h : nlit rd r = some (x, q)) : (match nnum rd (k + 1) r with | none => none | some (zs, r') => some (ys ++ zs, r')) = (match nnum rd k q with | none => none | some (zs, r') => some ((ys ++ [x]) ++ zs, r')) := by
  have : nnum rd (k + 1) r = (match nnum rd k q with | none => none | some (xs, r') => some (x :: xs, r')) := by
    conv => lhs; unfold nnum
    rw [h]
  rw [this]
  cases nnum rd k q with
  | none => rfl
  | some z => simp
theorem ptOut_none (h : nnum rd k l = none) (he : ∃ u v, en = .returned (.tuple #[u, v]) ∧ errV v) : ptOut B P RD X T rd k xs l en w' := by unfold ptOut; rw [h]; exact he
theorem ptOut_some (h : nnum rd k l = some (ys, r)) (he : ∃ v, en = .returned (.tuple #[v, .nilIface]) ∧ w'.ownsRow X 79 1 v (xs.length + ys.length) (fl (xs ++ ys)) ∧ PS B P RD T r w') : ptOut B P RD X T rd k xs l en w' := by unfold ptOut; rw [h]; exact he
theorem Core.carry {f : Flds} {w : World} (h : Core B P RD f w) (hs : w.heap.size ≤ w'.heap.size) (hk : ∀ k x, w.heap[k]? = some x → (k = P ∨ k = RD ∨ ∃ cs fz, x = .cells cs 5 fz) → w'.heap[k]? = some x) : Core B P RD f w' := by
  refine ⟨?_, Nat.le_trans h.hs hs, h.hr, h.ne, hk RD _ h.r (.inr (.inl rfl))⟩
  obtain ⟨hB, v, lr, hbk, hown, hne⟩ := h.b
  have hP : w'.heap[P]? = w.heap[P]? := by
    obtain ⟨cs, hb, -⟩ := hbk
    rw [hb]
    exact hk P _ hb (.inl rfl)
  refine ⟨hB, v, lr, hbk.of_heap hP, ⟨hown.1, ?_⟩, hne⟩
  rcases hown.2 with hn | ⟨g, cap, cur, hv, hbg, hg, rest⟩
  · exact .inl hn
  · exact .inr ⟨g, cap, cur, hv, hbg, hk g _ hg (.inr (.inr ⟨_, _, rfl⟩)), rest⟩
theorem LxAt.carry {i : Nat} {w : World} (h : LxAt B P RD T i w) (hs : w.heap.size ≤ w'.heap.size) (hk : ∀ k x, w.heap[k]? = some x → (k = P ∨ k = RD ∨ ∃ cs fz, x = .cells cs 5 fz) → w'.heap[k]? = some x) : LxAt B P RD T i w' := by
  obtain ⟨f, h1, h2, h3 | ⟨k1, k2, k3, k4, k5, tk, h3⟩⟩ := h
  · exact ⟨f, h1, h2, .inl (h3.same (h3.core.carry hs hk) rfl rfl rfl rfl rfl rfl rfl rfl)⟩
  · exact ⟨f, h1, h2, .inr ⟨k1, k2, k3, k4, k5, tk, h3.core.carry hs hk, h3.inv⟩⟩
theorem PS.carry {w : World} (h : PS B P RD T l w) (hb : Below B w w') (hk : ∀ k x, w.heap[k]? = some x → (k = P ∨ k = RD ∨ ∃ cs fz, x = .cells cs 5 fz) → w'.heap[k]? = some x) : PS B P RD T l w' := by
  obtain ⟨i, h1, h2⟩ := h.lx
  exact ⟨⟨i, h1.carry hb.size hk, h2⟩, h.lw.below hb⟩
/-- An append of a new block's cells onto a row that is not the scanner's. -/
theorem PS.grownX {w : World} {e size n : Nat} {v : Value} {ys : List Value} {o : Obj} (h : PS B P RD T l w) (ho : w.ownsRow X e size v n ys) (he : e ≠ 5) (hg : (w.alloc o).grownBy w' v.ownBlock) (hP : P < X) (hR : RD < X) (hBX : B ≤ X) : PS B P RD T l w' := by
  have hb : Below B w w' := ((Below.refl B w).alloc h.hs o).grown hg (Nat.le_trans h.hs ((Below.refl 0 w).alloc (Nat.zero_le _) o).size) (fun k hk => Nat.le_trans hBX (ho.lt k hk).1)
  refine h.carry hb ?_
  intro k x hx hor
  have hlt := Lib.lt_of_heap hx
  have e2 : (w.alloc o).heap[k]? = some x := (Below.heap_alloc _ _ _ hlt).trans hx
  rw [hg.block k (Lib.lt_of_heap e2) ?_]
  · exact e2
  · intro ek
    rcases ho.2 with ⟨rfl, -⟩ | ⟨g, cap, cur, rfl, hg1, hg2, -⟩
    · cases ek
    · simp [Value.ownBlock] at ek
      subst ek
      rcases hor with rfl | rfl | ⟨cs, fz, rfl⟩
      · omega
      · omega
      · rw [hg2] at hx
        injection hx with hx
        injection hx with _ hx
        exact he hx
end
set_option maxHeartbeats 4000000 in
set_option maxRecDepth 100000 in
theorem p67 (B P RD X : Nat) (T : ByteArray) (rd : ByteArray → Option Nat) (l : List ByteArray) (w : World) (d : Nat) (hd : d < 4) (v : Value) (xs : List Nat) (h : PS B P RD T l w) (hN : NumP B w) (hr : ∀ t, t ∈ l → NT t (rd t))
    (hown : w.ownsRow X 79 1 v xs.length (fl xs)) (hP : P < X) (hR : RD < X) (hBX : B ≤ X) (hXw : X ≤ w.heap.size) (hsz : xs.length + l.length ≤ 1000000) :
    Calls Tryz.prog 67 #[.pointer (some ⟨P, 0, none⟩), v, .int .u8 d] w fun en w' => ptOut B P RD X T rd (dimW d) xs l en w' ∧ FrX B P RD X w w' := by
  obtain ⟨i0, hi, hz0, hz1, hz2⟩ := info_parts inf79
  have hdim := fun w => dim_any d hd w
  have hD : dimW d ≤ 4 := by unfold dimW; split; omega; split <;> omega
  obtain ⟨D, hDD⟩ : ∃ D, D = dimW d := ⟨_, rfl⟩
  rw [← hDD] at hdim hD ⊢
  have HD := Lib.hid hDD
  have H := Lib.hid h
  have HN := Lib.hid hN
  have HR := Lib.hid hr
  have HO := Lib.hid hown
  clear h hN hr hown hDD
  go_enter Tryz.func67, Tryz.ntmps67
  go_wp2
  go_loopg [1, 8, 9, 10] D (fun G s1 s8 s9 s10 wr => ∃ (k : Nat) (ys : List Nat) (r : List ByteArray), s8 = .int .i64 k ∧ G = D - k ∧ k ≤ D ∧ ys.length = k ∧ (∃ p, l = p ++ r) ∧ r.length + k ≤ l.length ∧
    nnum rd D l = (match nnum rd (D - k) r with | none => none | some (zs, r') => some (ys ++ zs, r')) ∧ wr.ownsRow X 79 1 s1 (xs.length + k) (fl (xs ++ ys)) ∧ PS B P RD T r wr ∧ FrX B P RD X w wr)
  case atStart =>
    refine ⟨0, [], l, rfl, rfl, Nat.zero_le _, rfl, ⟨[], rfl⟩, Nat.le_refl _, ?_, by rw [List.append_nil]; exact HO.out, H.out, FrX.refl⟩
    rw [Nat.sub_zero]
    cases nnum rd D l with
    | none => rfl
    | some z => rfl
  case round =>
    obtain ⟨k, ys, r, rfl, hG, hk, hys, hsub, hlen, hnn, hown, hps, hfr⟩ := hrel
    have HG := Lib.hid hG
    have HYS := Lib.hid hys
    have HSUB := Lib.hid hsub
    have HLEN := Lib.hid hlen
    have HNN := Lib.hid hnn
    have HO2 := Lib.hid hown
    have HPS := Lib.hid hps
    have HFR := Lib.hid hfr
    clear hG hys hsub hlen hnn hown hps hfr
    by_cases hkD : k < D
    · have hkD' : (k : Int) < D := by omega
      have hp := p76 B P RD T rd r wr HPS.out (HN.out.below HFR.out.bel) (by
        obtain ⟨p, e⟩ := HSUB.out
        intro t ht
        exact HR.out t (by rw [e]; simp [ht]))
      go_wp2_with fail
      refine (hdim _).mono ?_
      rintro e w' ⟨rfl, rfl⟩
      go_wp2_with fail
      refine hp.mono ?_
      rintro e w1 ⟨h1, hf1⟩
      unfold litOut at h1
      have HF1 := Lib.hid hf1
      clear hf1 hp
      cases hnl : nlit rd r with
      | none =>
        rw [hnl] at h1
        obtain ⟨f, v, rfl, s, rfl⟩ := h1
        have HNL := Lib.hid hnl
        clear hnl
        go_wp2
        refine bodyPost_ret (results_tmp2 rfl _ _ _) rfl ?_
        refine ⟨?_, HFR.out.trans (HF1.out.x X)⟩
        have e := HNN.out
        rw [nnum_none HNL.out (by omega)] at e
        exact ptOut_none e ⟨_, _, rfl, _, rfl⟩
      | some z =>
        obtain ⟨x, q⟩ := z
        rw [hnl] at h1
        obtain ⟨rfl, hq⟩ := h1
        have HNL := Lib.hid hnl
        have HQ := Lib.hid hq
        have ho1 := ownsRow_fr HO2.out HF1.out hP hR (by decide)
        have hlen := HLEN.out
        have hBl := hq.hs
        have hX1 : X ≤ w1.heap.size := Nat.le_trans hXw (HFR.out.trans (HF1.out.x X)).bel.size
        clear hnl hq
        go_wp2_with (at_builtin; refine wpList_append_own _ rfl _ _ 30 rfl X 79 i0 (.float .f64 0) 1 8 Tryz.underlying30 hi hz0 hz1 hz2 rfl (by decide) _ _ _ rfl (ho1.alloc _) ⟨w1.heap.size, 0, none⟩ 1 1 [.float .f64 x] rfl rfl ?c1 ?c2 ?c3 ?c4 ?c5 ?_)
        case c1 =>
          intro j u hj
          match j, hj with
          | 0, hj => simp at hj; subst hj; simp [Addr.add]
        case c2 => intro u hu; simp at hu; subst hu; rfl
        case c3 => unfold maxLen; omega
        case c4 => omega
        case c5 => simp; omega
        intro v' w2 hown2 hgrow _
        have hfx : FrX B P RD X w1 w2 := ((Fr.refl.alloc hBl _).x X).trans (FrX.grown hgrow (fun k e => (ho1.lt k e).1) hBX (by simp; omega))
        have HPQ := Lib.hid (HQ.out.grownX ho1 (by decide) hgrow hP hR hBX)
        have HO3 := Lib.hid hown2
        have HFX := Lib.hid hfx
        clear hown2 hgrow hfx ho1
        go_wp2
        go_roundg (gk - 1)
        case measure => have := HG.out; omega
        case rel =>
          obtain ⟨⟨p1, e1⟩, hlt⟩ := nlit_sub HNL.out
          obtain ⟨p0, e0⟩ := HSUB.out
          refine ⟨k + 1, ys ++ [x], q, by go_num, by have := HG.out; omega, by omega, by simp [HYS.out], ⟨p0 ++ p1, by rw [e0, e1, List.append_assoc]⟩, by omega, ?_, ?_, HPQ.out, HFR.out.trans ((HF1.out.x X).trans HFX.out)⟩
          · rw [HNN.out, show D - k = (D - (k + 1)) + 1 from by omega]
            exact nnum_step HNL.out
          · have := HO3.out
            rw [fl_snoc] at this
            exact this
    · have hkD' : ¬ (k : Int) < D := by omega
      go_wp2_with fail
      refine (hdim _).mono ?_
      rintro e w' ⟨rfl, rfl⟩
      go_wp2
      refine bodyPost_ret (results_tmp2 rfl _ _ _) rfl ?_
      refine ⟨?_, HFR.out⟩
      have e := HNN.out
      rw [show D - k = 0 from by omega] at e
      have e2 : nnum rd D l = some (ys ++ [], r) := e
      rw [List.append_nil] at e2
      exact ptOut_some e2 ⟨_, rfl, by rw [HYS.out]; exact HO2.out, HPS.out⟩
end Go.Proofs.YthfjakbpeclfcaaGreatDoor
