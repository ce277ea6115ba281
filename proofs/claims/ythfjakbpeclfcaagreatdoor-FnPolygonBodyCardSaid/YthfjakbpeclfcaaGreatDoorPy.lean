/-
  The parser's nextPolygonOrMultiLineStringText.
-/
import Derived.Test.YthfjakbpeclfcaaGreatDoorGGm
namespace Go.Proofs.YthfjakbpeclfcaaGreatDoor
open Go.RowKit Go

theorem inf67 : (Tryz.prog.info? 67).map (fun i => (i.zero, i.size, i.bytes)) = some (some (.agg #[.int .u8 0, .slice none 0 0]), 2, 32) := by kernel_rfl
def nrings (rd : ByteArray → Option Nat) (D : Nat) : Nat → List (List Nat) → List ByteArray → Option (List (List Nat) × List ByteArray)
  | 0, _, _ => none
  | _ + 1, _, [] => none
  | f + 1, acc, t :: r => if t = tRP then some (acc, r) else if t = tCM then (match nline rd D r with | none => none | some (ys, q) => nrings rd D f (acc ++ [ys]) q) else none
def npoly (rd : ByteArray → Option Nat) (D : Nat) : List ByteArray → Option (List (List Nat) × List ByteArray)
  | [] => none
  | t :: r => if t = tEMPTY then some ([], r) else if t = tLP then (match nline rd D r with | none => none | some (ys, q) => nrings rd D (q.length + 1) [ys] q) else none
section
variable {B P RD X k : Nat} {T : ByteArray} {rd : ByteArray → Option Nat} {D f : Nat} {l r q : List ByteArray} {t : ByteArray} {en : Ending} {w w' : World} {xs ys : List Nat} {acc : List (List Nat)}
theorem npts_sub : ∀ {f : Nat} {a xs : List Nat} {l r : List ByteArray}, npts rd D f a l = some (xs, r) → (∃ p, l = p ++ r) ∧ r.length < l.length
  | 0, _, _, _, _, h => by cases h
  | _ + 1, _, _, [], _, h => by cases h
  | f + 1, a, xs, t :: l, r, h => by
    by_cases h1 : t = tRP
    · rw [npts_rp h1] at h
      injection h with h
      injection h with _ h
      subst h
      exact ⟨⟨[t], rfl⟩, by simp⟩
    · by_cases h2 : t = tCM
      · cases hn : nnum rd D l with
        | none => rw [npts_none h2 hn] at h; cases h
        | some z =>
          obtain ⟨ys, q⟩ := z
          rw [npts_step h2 hn] at h
          obtain ⟨⟨p1, e1⟩, h3, -⟩ := nnum_sub hn
          obtain ⟨⟨p2, e2⟩, h4⟩ := npts_sub h
          exact ⟨⟨t :: (p1 ++ p2), by rw [e1, e2]; simp⟩, by simp only [List.length_cons]; omega⟩
      · rw [npts_bad h1 h2] at h
        cases h
theorem nline_sub (h : nline rd D l = some (xs, r)) : (∃ p, l = p ++ r) ∧ r.length < l.length := by
  cases l with
  | nil => cases h
  | cons t l =>
    by_cases h1 : t = tEMPTY
    · rw [nline_em h1] at h
      injection h with h
      injection h with _ h
      subst h
      exact ⟨⟨[t], rfl⟩, by simp⟩
    · by_cases h2 : t = tLP
      · cases hn : nnum rd D l with
        | none => rw [nline_none h2 hn] at h; cases h
        | some z =>
          obtain ⟨ys, q⟩ := z
          rw [nline_some h2 hn] at h
          obtain ⟨⟨p1, e1⟩, h3, -⟩ := nnum_sub hn
          obtain ⟨⟨p2, e2⟩, h4⟩ := npts_sub h
          exact ⟨⟨t :: (p1 ++ p2), by rw [e1, e2]; simp⟩, by simp only [List.length_cons]; omega⟩
      · rw [nline_bad h1 h2] at h
        cases h
theorem nrings_nil : nrings rd D f acc [] = none := by cases f <;> rfl
theorem nrings_rp (h : t = tRP) : nrings rd D (f + 1) acc (t :: r) = some (acc, r) := by unfold nrings; rw [if_pos h]
theorem nrings_bad (h1 : t ≠ tRP) (h2 : t ≠ tCM) : nrings rd D f acc (t :: r) = none := by
  cases f with
  | zero => rfl
  | succ f => unfold nrings; rw [if_neg h1, if_neg h2]
theorem nrings_none (h : t = tCM) (hn : nline rd D r = none) : nrings rd D f acc (t :: r) = none := by
  cases f with
  | zero => rfl
  | succ f => unfold nrings; rw [if_neg (tCM_RP h), if_pos h, hn]
theorem nrings_step (h : t = tCM) (hn : nline rd D r = some (ys, q)) : nrings rd D (f + 1) acc (t :: r) = nrings rd D f (acc ++ [ys]) q := by
  conv => lhs; unfold nrings
  rw [if_neg (tCM_RP h), if_pos h, hn]
theorem npoly_em (h : t = tEMPTY) : npoly rd D (t :: r) = some ([], r) := by show (if t = tEMPTY then some ([], r) else if t = tLP then (match nline rd D r with | none => none | some (ys, q) => nrings rd D (q.length + 1) [ys] q) else none) = _; rw [if_pos h]
theorem npoly_bad (h1 : t ≠ tEMPTY) (h2 : t ≠ tLP) : npoly rd D (t :: r) = none := by show (if t = tEMPTY then some ([], r) else if t = tLP then (match nline rd D r with | none => none | some (ys, q) => nrings rd D (q.length + 1) [ys] q) else none) = _; rw [if_neg h1, if_neg h2]
theorem npoly_none (h : t = tLP) (hn : nline rd D r = none) : npoly rd D (t :: r) = none := by show (if t = tEMPTY then some ([], r) else if t = tLP then (match nline rd D r with | none => none | some (ys, q) => nrings rd D (q.length + 1) [ys] q) else none) = _; rw [if_neg (tLP_EM h), if_pos h, hn]
theorem npoly_some (h : t = tLP) (hn : nline rd D r = some (ys, q)) : npoly rd D (t :: r) = nrings rd D (q.length + 1) [ys] q := by show (if t = tEMPTY then some ([], r) else if t = tLP then (match nline rd D r with | none => none | some (ys, q) => nrings rd D (q.length + 1) [ys] q) else none) = _; rw [if_neg (tLP_EM h), if_pos h, hn]
def rc (d : Nat) (L : List (Value × List Nat)) : List Value := L.flatMap fun p => [.int .u8 d, p.1]
theorem rc_len (d : Nat) (L : List (Value × List Nat)) : (rc d L).length = L.length * 2 := by
  induction L with
  | nil => rfl
  | cons a t ih => simp only [rc, List.flatMap_cons, List.length_append, List.length_cons, List.length_nil] at *; omega
structure Rows (X d : Nat) (w : World) (v : Value) (L : List (Value × List Nat)) : Prop where
  own : w.ownsRow X 67 2 v L.length (rc d L)
  each : ∀ p, p ∈ L → w.ownsRow X 79 1 p.1 p.2.length (fl p.2)
theorem ownsRow_grown {e e' size size' n n' : Nat} {v v' : Value} {xs xs' : List Value} {o : Obj} (h : w.ownsRow X e size v n xs) (ho : w.ownsRow X e' size' v' n' xs') (he : e ≠ e') (hg : (w.alloc o).grownBy w' v'.ownBlock) : w'.ownsRow X e size v n xs := by
  rcases h.2 with ⟨rfl, -⟩ | ⟨g, cap, cur, rfl, hg1, hg2, -⟩
  · exact (h.alloc o).kept hg (Or.inl rfl)
  · refine (h.alloc o).kept hg (Or.inr ?_)
    intro ek
    rcases ho.2 with ⟨rfl, -⟩ | ⟨g', cap', cur', rfl, hg1', hg2', -⟩
    · cases ek
    · simp [Value.ownBlock] at ek
      subst ek
      rw [hg2] at hg2'
      injection hg2' with h
      injection h with _ h
      exact he h
theorem ownsRow_new {e size n : Nat} {cs : Array Value} (hX : X ≤ w.heap.size) (hc : cs.size = n * size) (hn : n ≤ maxLen) : (w.alloc (.cells cs e)).ownsRow X e size (.slice (some ⟨w.heap.size, 0, none⟩) n n) n cs.toList :=
  ⟨by simpa using hc, .inr ⟨_, n, cs, rfl, hX, heap_alloc_new _ _, Nat.le_refl _, hn, hc, List.take_of_length_le (by rw [← hc]; simp)⟩⟩
theorem Rows.alloc {d : Nat} {v : Value} {L : List (Value × List Nat)} (h : Rows X d w v L) (o : Obj) : Rows X d (w.alloc o) v L := ⟨h.own.alloc o, fun p hp => (h.each p hp).alloc o⟩
theorem Rows.far {d : Nat} {v : Value} {L : List (Value × List Nat)} (h : Rows X d w v L) (hb : Below w.heap.size w w') : Rows X d w' v L := ⟨ownsRow_far h.own hb, fun p hp => ownsRow_far (h.each p hp) hb⟩
theorem Rows.fr {d : Nat} {v : Value} {L : List (Value × List Nat)} (h : Rows X d w v L) (hf : Fr B P RD w w') (hP : P < X) (hR : RD < X) : Rows X d w' v L := ⟨ownsRow_fr h.own hf hP hR (by decide), fun p hp => ownsRow_fr (h.each p hp) hf hP hR (by decide)⟩
def plOut (B P RD X : Nat) (T : ByteArray) (rd : ByteArray → Option Nat) (d : Nat) (l : List ByteArray) (en : Ending) (w' : World) : Prop :=
  match npoly rd (dimW d) l with
  | some (xss, r) => ∃ v L, en = .returned (.tuple #[v, .nilIface]) ∧ L.map (·.2) = xss ∧ Rows X d w' v L ∧ PS B P RD T r w' ∧ L.length ≤ l.length
  | none => ∃ v, en = .returned (.tuple #[.slice none 0 0, v]) ∧ errV v
theorem plOut_none {d : Nat} (h : npoly rd (dimW d) l = none) (he : ∃ v, en = .returned (.tuple #[.slice none 0 0, v]) ∧ errV v) : plOut B P RD X T rd d l en w' := by unfold plOut; rw [h]; exact he
theorem plOut_some {d : Nat} {xss : List (List Nat)} (h : npoly rd (dimW d) l = some (xss, r)) (he : ∃ v L, en = .returned (.tuple #[v, .nilIface]) ∧ L.map (·.2) = xss ∧ Rows X d w' v L ∧ PS B P RD T r w' ∧ L.length ≤ l.length) : plOut B P RD X T rd d l en w' := by unfold plOut; rw [h]; exact he
end

set_option maxHeartbeats 4000000 in
set_option maxRecDepth 100000 in
theorem p42 (B P RD : Nat) (T : ByteArray) (rd : ByteArray → Option Nat) (l : List ByteArray) (w : World) (d : Nat) (hd : d < 4) (h : PS B P RD T l w) (hN : NumP B w) (hr : ∀ t, t ∈ l → NT t (rd t))
    (hP : P < w.heap.size) (hR : RD < w.heap.size) (hsz : l.length ≤ 100000) :
    Calls Tryz.prog 42 #[.pointer (some ⟨P, 0, none⟩), .int .u8 d] w fun en w' => plOut B P RD w.heap.size T rd d l en w' ∧ Fr B P RD w w' := by
  obtain ⟨i0, hi, hz0, hz1, hz2⟩ := info_parts inf67
  have hBw := h.hs
  have hc := p54 B P RD T l _ h
  have HN := Lib.hid hN
  have HR := Lib.hid hr
  obtain ⟨X, hX⟩ : ∃ X, X = w.heap.size := ⟨_, rfl⟩
  rw [← hX] at hP hR hBw ⊢
  have HX := Lib.hid hX
  clear h hN hr hX
  go_enter Tryz.func42, Tryz.ntmps42
  go_wp2_with fail
  refine hc.mono ?_
  rintro e w1 ⟨h1, hf⟩
  have HF0 := Lib.hid hf
  clear hc hf
  by_cases hok : ∃ t r, l = t :: r ∧ (t = tEMPTY ∨ t = tLP)
  · obtain ⟨t, r, rfl, hor⟩ := hok
    have h1' : e = .returned (.tuple #[.string t, .nilIface]) ∧ PS B P RD T r w1 := by
      rcases h1 with ⟨-, h1⟩ | ⟨h2, h3, -⟩
      · exact h1
      · rcases hor with h | h
        · exact absurd h h2
        · exact absurd h h3
    obtain ⟨rfl, hp1⟩ := h1'
    have HP1 := Lib.hid hp1
    clear h1 hp1
    by_cases ht : t = tEMPTY
    · have b1 : (t.toList == [69, 77, 80, 84, 89]) = true := str_eq ht rfl
      have HT := Lib.hid ht
      clear ht hor
      go_wp2
      refine bodyPost_ret (results_tmp2 rfl _ _ _) rfl ?_
      exact ⟨plOut_some (npoly_em HT.out) ⟨_, [], rfl, rfl, ⟨World.ownsRow_nil _ _ _ _, fun p hp => by cases hp⟩, HP1.out, Nat.zero_le _⟩, HF0.out⟩
    · have ht2 : t = tLP := hor.resolve_left ht
      have b1 : (t.toList == [69, 77, 80, 84, 89]) = false := str_ne ht rfl
      have HT := Lib.hid ht2
      clear ht ht2 hor
      have hX1 : X ≤ w1.heap.size := by have := HF0.out.bel.size; have := HX.out; omega
      have hpt := p55 B P RD T rd r w1 d hd HP1.out (HN.out.below HF0.out.bel) (fun u hu => HR.out u (by simp [hu])) (by omega) (by omega) (by simp at hsz; omega)
      go_wp2_with fail
      refine hpt.mono ?_
      rintro e w2 ⟨h2, hf2⟩
      have HF2 := Lib.hid (HF0.out.trans hf2)
      clear hpt hf2
      cases hnn : nline rd (dimW d) r with
      | none =>
        unfold lnOut at h2
        rw [hnn] at h2
        obtain ⟨u0, u1, u2, u3, v0, rfl, sy, rfl⟩ := h2
        have HNO := Lib.hid (npoly_none (rd := rd) (D := dimW d) HT.out hnn)
        have hB2 : B ≤ w2.heap.size := by have := HF2.out.bel.size; have := HX.out; omega
        clear hnn
        go_wp2
        refine bodyPost_ret (results_tmp2 rfl _ _ _) rfl ?_
        exact ⟨plOut_none HNO.out ⟨_, rfl, _, rfl⟩, HF2.out.alloc hB2 _⟩
      | some q =>
        obtain ⟨ys, q⟩ := q
        unfold lnOut at h2
        rw [hnn] at h2
        obtain ⟨v2, rfl, hown2, hps2⟩ := h2
        obtain ⟨ao2, c2, rfl⟩ := ownsRow_slice hown2
        obtain ⟨⟨p2, hp2⟩, hlen2⟩ := nline_sub hnn
        have HEQ := Lib.hid (npoly_some HT.out hnn)
        have HSUB2 : Hid (∃ p, t :: r = p ++ q) := Lib.hid ⟨t :: p2, by rw [hp2]; rfl⟩
        have HO2 := Lib.hid (ownsRow_mono hown2 hX1)
        have HPS2 := Lib.hid hps2
        have HL2 := Lib.hid hlen2
        have hB2 : B ≤ w2.heap.size := by have := HF2.out.bel.size; have := HX.out; omega
        have hX2 : X ≤ w2.heap.size := by have := HF2.out.bel.size; have := HX.out; omega
        clear hnn hp2 hlen2 hown2 hps2
        go_wp2
        go_loopg [9] (q.length + 1) (fun G s9 wr => ∃ (L : List (Value × List Nat)) (r' : List ByteArray), r'.length < G ∧ npoly rd (dimW d) (t :: r) = nrings rd (dimW d) G (L.map (·.2)) r' ∧ L.length + r'.length ≤ r.length ∧ (∃ p, t :: r = p ++ r') ∧
          Rows X d wr s9 L ∧ PS B P RD T r' wr ∧ FrX B P RD X w wr)
        case atStart =>
          refine ⟨[(.slice ao2 ys.length c2, ys)], q, by omega, HEQ.out, by have := HL2.out; simp; omega, HSUB2.out, ⟨?_, ?_⟩, (HPS2.out.far ((Below.refl _ _).alloc (Nat.le_refl _) _)).far ((Below.refl _ _).alloc (Nat.le_refl _) _), ((HF2.out.alloc hB2 _).alloc (by simp; omega) _).x X⟩
          · have := ownsRow_new (w := w2.alloc (.cells #[.int .u8 d, .slice ao2 ys.length c2] 67)) (X := X) (e := 67) (size := 2) (n := 1) (cs := #[.int .u8 d, .slice ao2 ys.length c2]) (by simp; omega) rfl (by decide)
            simpa [rc] using this
          · intro p hp
            simp at hp
            subst hp
            exact (HO2.out.alloc _).alloc _
        case round =>
          obtain ⟨L, r', hG, heq, hsum, hsub, hrows, hps, hfr⟩ := hrel
          have hc := p56 B P RD T r' wr hps
          have HG := Lib.hid hG
          have HEQ := Lib.hid heq
          have HSUM := Lib.hid hsum
          have HSUB := Lib.hid hsub
          have HFR := Lib.hid hfr
          have HRW := Lib.hid hrows
          clear hG heq hsum hsub hps hfr hrows
          go_wp2_with fail
          refine hc.mono ?_
          rintro e w3 ⟨h3, hf3⟩
          have HFR3 := Lib.hid (HFR.out.trans (hf3.x X))
          have HRW3 := Lib.hid (HRW.out.fr hf3 hP hR)
          clear hc hf3
          by_cases hok : ∃ t' r2, r' = t' :: r2 ∧ (t' = tRP ∨ t' = tCM)
          · obtain ⟨t', r2, rfl, hor⟩ := hok
            have h1' : e = .returned (.tuple #[.string t', .nilIface]) ∧ PS B P RD T r2 w3 := by
              rcases h3 with ⟨-, h1⟩ | ⟨h2, h3, -⟩
              · exact h1
              · rcases hor with h | h
                · exact absurd h h2
                · exact absurd h h3
            obtain ⟨rfl, hp3⟩ := h1'
            have HPS0 := Lib.hid hp3
            clear h3 hp3
            by_cases hrp : t' = tRP
            · have b2 : (t'.toList == [44]) = false := str_ne (x := tCM) (fun e => tCM_RP e hrp) rfl
              have HRP := Lib.hid hrp
              clear hrp hor b1
              have HRES : Hid (npoly rd (dimW d) (t :: r) = some (L.map (·.2), r2)) := by
                obtain ⟨g', rfl⟩ : ∃ g', gk = g' + 1 := ⟨gk - 1, by have := HG.out; omega⟩
                exact Lib.hid (HEQ.out.trans (nrings_rp HRP.out))
              go_wp2
              refine bodyPost_ret (results_tmp2 rfl _ _ _) rfl ?_
              exact ⟨plOut_some HRES.out ⟨_, L, rfl, rfl, HRW3.out, HPS0.out, by have := HSUM.out; simp at this ⊢; omega⟩, HFR3.out.fr (by rw [HX.out]; exact Nat.le_refl _)⟩
            · have hcm : t' = tCM := hor.resolve_left hrp
              have b2 : (t'.toList == [44]) = true := str_eq hcm rfl
              have HCM := Lib.hid hcm
              clear hrp hcm hor b1
              have hX3 : X ≤ w3.heap.size := by have := HFR3.out.bel.size; have := HX.out; omega
              have hpt := p55 B P RD T rd r2 w3 d hd HPS0.out (HN.out.below HFR3.out.bel) (fun u hu => HR.out u (by
                obtain ⟨p, e⟩ := HSUB.out
                rw [e]
                simp [hu])) (by omega) (by omega) (by have := HSUM.out; simp at this hsz; omega)
              go_wp2_with fail
              refine hpt.mono ?_
              rintro e w4 ⟨h4, hf4⟩
              have HFX4 := Lib.hid (HFR3.out.trans (hf4.x X))
              have HRW4 := Lib.hid (HRW3.out.fr hf4 hP hR)
              have hB4 : B ≤ w4.heap.size := by have := HFX4.out.bel.size; have := HX.out; omega
              have hX4 : X ≤ w4.heap.size := by have := HFX4.out.bel.size; have := HX.out; omega
              clear hpt hf4
              cases hn4 : nline rd (dimW d) r2 with
              | none =>
                unfold lnOut at h4
                rw [hn4] at h4
                obtain ⟨u0, u1, u2, u3, v0, rfl, sy, rfl⟩ := h4
                have HNO := Lib.hid (HEQ.out.trans (nrings_none HCM.out hn4))
                clear hn4
                go_wp2
                refine bodyPost_ret (results_tmp2 rfl _ _ _) rfl ?_
                exact ⟨plOut_none HNO.out ⟨_, rfl, _, rfl⟩, (HFX4.out.fr (by rw [HX.out]; exact Nat.le_refl _)).alloc hB4 _⟩
              | some q4 =>
                obtain ⟨ys4, q4⟩ := q4
                unfold lnOut at h4
                rw [hn4] at h4
                obtain ⟨v4, rfl, hown4, hps4⟩ := h4
                obtain ⟨ao4, c4, rfl⟩ := ownsRow_slice hown4
                have HN4 := Lib.hid hn4
                have HO4 := Lib.hid (ownsRow_mono hown4 hX3)
                have HPS4 := Lib.hid hps4
                have hrow := HRW4.out.own.alloc (.cells #[.int .u8 d, .slice ao4 ys4.length c4] 67)
                have hsum := HSUM.out
                simp only [List.length_cons] at hsum
                simp only [List.length_cons] at hsz
                clear hn4 hown4 hps4
                go_wp2_with (at_builtin; refine wpList_append_own _ rfl _ _ 38 rfl X 67 i0 (.agg #[.int .u8 0, .slice none 0 0]) 2 32 Tryz.underlying38 hi hz0 hz1 hz2 rfl (by decide) _ _ _ rfl (hrow.alloc _) ⟨w4.heap.size + 1, 0, none⟩ 1 1 [.int .u8 d, .slice ao4 ys4.length c4] rfl rfl ?c1 ?c2 ?c3 ?c4 ?c5 ?_)
                case c1 =>
                  intro j u hj
                  match j, hj with
                  | 0, hj => simp at hj; subst hj; simp [Addr.add]
                  | 1, hj => simp at hj; subst hj; simp [Addr.add]
                case c2 =>
                  intro u hu
                  simp at hu
                  rcases hu with rfl | rfl <;> rfl
                case c3 => unfold maxLen; omega
                case c4 => omega
                case c5 => simp; omega
                intro v' w5 hown5 hgrow _
                have hPS5 := (HPS4.out.far ((Below.refl _ _).alloc (Nat.le_refl _) (.cells #[.int .u8 d, .slice ao4 ys4.length c4] 67))).grownX hrow (by decide) hgrow hP hR hBw
                have hfx : FrX B P RD X w4 w5 := (((Fr.refl.alloc hB4 _).alloc (by simp; omega) _).x X).trans (FrX.grown hgrow (fun k e => (hrow.lt k e).1) hBw (by simp; omega))
                have HRW5 : Hid (Rows X d w5 v' (L ++ [(.slice ao4 ys4.length c4, ys4)])) := by
                  refine Lib.hid ⟨?_, ?_⟩
                  · have e1 : rc d (L ++ [(.slice ao4 ys4.length c4, ys4)]) = rc d L ++ [.int .u8 d, .slice ao4 ys4.length c4] := by simp [rc]
                    rw [e1, List.length_append]
                    exact hown5
                  · intro p hp
                    rw [List.mem_append] at hp
                    rcases hp with hp | hp
                    · exact ownsRow_grown ((HRW4.out.each p hp).alloc _) hrow (by decide) hgrow
                    · simp at hp
                      subst hp
                      exact ownsRow_grown (HO4.out.alloc _) hrow (by decide) hgrow
                have HPS5 := Lib.hid hPS5
                have HFX5 := Lib.hid (HFX4.out.trans hfx)
                clear hown5 hgrow hfx hrow hPS5
                go_wp2
                go_roundg (gk - 1)
                case measure => have := HG.out; omega
                case rel =>
                  obtain ⟨⟨p4, e4⟩, hl4⟩ := nline_sub HN4.out
                  obtain ⟨p0, e0⟩ := HSUB.out
                  have hg := HG.out
                  simp only [List.length_cons] at hg
                  refine ⟨L ++ [(.slice ao4 ys4.length c4, ys4)], q4, by omega, ?_, by simp; omega, ⟨p0 ++ t' :: p4, by rw [e0, e4]; simp⟩, HRW5.out, HPS5.out, HFX5.out⟩
                  obtain ⟨g', rfl⟩ : ∃ g', gk = g' + 1 := ⟨gk - 1, by omega⟩
                  rw [List.map_append]
                  exact HEQ.out.trans (nrings_step HCM.out HN4.out)
          · have hb : badStr e ∧ nrings rd (dimW d) gk (L.map (·.2)) r' = none := by
              cases r' with
              | nil => exact ⟨h3, nrings_nil⟩
              | cons t' r2 =>
                have h2 : t' ≠ tRP := fun h => hok ⟨t', r2, rfl, .inl h⟩
                have h4 : t' ≠ tCM := fun h => hok ⟨t', r2, rfl, .inr h⟩
                refine ⟨?_, nrings_bad h2 h4⟩
                rcases h3 with ⟨h, -⟩ | ⟨-, -, h⟩
                · rcases h with h | h
                  · exact absurd h h2
                  · exact absurd h h4
                · exact h
            obtain ⟨hb, hnone⟩ := hb
            have HNO := Lib.hid (HEQ.out.trans hnone)
            obtain ⟨sx, vx, rfl, sy, rfl⟩ := hb
            clear h3 hok hnone b1
            go_wp2
            refine bodyPost_ret (results_tmp2 rfl _ _ _) rfl ?_
            exact ⟨plOut_none HNO.out ⟨_, rfl, _, rfl⟩, HFR3.out.fr (by rw [HX.out]; exact Nat.le_refl _)⟩
  · have hb : badStr e ∧ npoly rd (dimW d) l = none := by
      cases l with
      | nil => exact ⟨h1, rfl⟩
      | cons t r =>
        have h2 : t ≠ tEMPTY := fun h => hok ⟨t, r, rfl, .inl h⟩
        have h3 : t ≠ tLP := fun h => hok ⟨t, r, rfl, .inr h⟩
        refine ⟨?_, npoly_bad h2 h3⟩
        rcases h1 with ⟨h, -⟩ | ⟨-, -, h⟩
        · rcases h with h | h
          · exact absurd h h2
          · exact absurd h h3
        · exact h
    obtain ⟨hb, hnone⟩ := hb
    have HNO := Lib.hid hnone
    obtain ⟨sx, vx, rfl, sy, rfl⟩ := hb
    clear h1 hok hnone
    go_wp2
    refine bodyPost_ret (results_tmp2 rfl _ _ _) rfl ?_
    exact ⟨plOut_none HNO.out ⟨_, rfl, _, rfl⟩, HF0.out⟩
end Go.Proofs.YthfjakbpeclfcaaGreatDoor
