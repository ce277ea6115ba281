/-
  The scanner's next, both roads; Peek, isDecimal, lower, isIdentRune.
  The scanner's digits, scanIdentifier.
  The scanner's scanIdentifier, and the token buffer's Reset.
-/
import Derived.Test.YthfjakbpeclfcaaGreatDoorNs
namespace Go.Proofs.YthfjakbpeclfcaaGreatDoor
open Go.RowKit Go

/-- The scanner stands behind q bytes of its text; a token began at tk, or none did. -/
structure SAt (B P RD : Nat) (tk : Option Nat) (q : Nat) (f : Flds) (w : World) : Prop where
  core : Core B P RD f w
  inv : ∃ o e p l : Nat, q = o + p ∧ Inv f o e p ∧ f.lcl = l ∧ l ≤ p ∧ Tok f o (p - l) tk
def nxt (T : ByteArray) (q : Nat) : Int := if q < T.size then tx T q else -1
def adv (T : ByteArray) (q : Nat) : Nat := if q < T.size then q + 1 else q
def one (T : ByteArray) (q : Nat) : Int := if q < T.size then 1 else 0

theorem nx_any (B P RD : Nat) (f : Flds) (w : World) (q : Nat) (tk : Option Nat) (h : SAt B P RD tk q f w) (hA : Asc f.T) (hsz : f.T.size ≤ 100000) (hW : ScW B w) :
    Calls Tryz.prog 80 #[.pointer (some ⟨P, 0, none⟩)] w fun en w' => ∃ f', en = .returned (.int .i32 (nxt f.T q)) ∧ SAt B P RD tk (adv f.T q) f' w' ∧ Keep f f' ∧ f'.lcl = one f.T q ∧ Fr B P RD w w' := by
  obtain ⟨hc, o, e, p, l, rfl, hI, hl, hlp, hk⟩ := h
  have hk2 : Tok f o p tk := by
    cases tk with
    | none => exact hk
    | some t =>
      obtain ⟨tp, t1, t2, t3, t4⟩ := hk
      exact ⟨tp, t1, by omega, t3, t4⟩
  rcases Nat.lt_or_ge p e with hp | hp
  · have hlt : o + p < f.T.size := by have := hI.hT; omega
    refine (nx_fast B P RD f w o e p hc hI hp hA).mono ?_
    rintro en w' ⟨rfl, ⟨l, c, ll, hc'⟩, hf⟩
    refine ⟨_, ?_, ⟨hc', o, e, p + 1, 1, ?_, ?_, rfl, by omega, ?_⟩, ⟨rfl, rfl, rfl, rfl, rfl, rfl⟩, ?_, hf⟩
    · unfold nxt; rw [if_pos hlt]
    · unfold adv; rw [if_pos hlt]; omega
    · exact ⟨hI.off, hI.fin, rfl, by omega, hI.he, hI.hT, hI.ri, hI.buf, hI.sen, .inr rfl⟩
    · cases tk with
      | none => exact hk2
      | some t => exact hk2
    · unfold one; rw [if_pos hlt]
  · have hpe : p = e := by have := hI.hp; omega
    subst hpe
    refine (nx_slow B P RD f w o p tk hc hI hk2 hA hsz hW).mono ?_
    rintro en w' ⟨f', e', p', rfl, hc', hI', hk', hkp, hp', hl', hf⟩
    refine ⟨f', rfl, ⟨hc', o + p, e', p', p', ?_, hI', hl', Nat.le_refl _, by rw [Nat.sub_self]; exact hk'⟩, hkp, ?_, hf⟩
    · unfold adv; rw [hp']; split <;> omega
    · unfold one; rw [hl', hp']; split <;> rfl

/-- The letters, by a scanner's char. -/
def isDec (c : Int) : Bool := decide (48 ≤ c) && decide (c ≤ 57)
def lowr (c : Int) : Int := bits .or .i32 32 c
def isIdn (c : Int) (i : Int) : Bool := (c == 95) || (decide (97 ≤ lowr c) && decide (lowr c ≤ 122)) || (isDec c && decide (0 < i))
theorem dec_any (c : Int) (w : World) : Calls Tryz.prog 84 #[.int .i32 c] w fun e w' => e = .returned (.bool (isDec c)) ∧ w' = w := by
  by_cases h : (48 : Int) ≤ c
  · have e : isDec c = decide (c ≤ 57) := by unfold isDec; simp [h]
    rw [e]
    go_enter Tryz.func84, Tryz.ntmps84
    go_wp2
    go_ret
    exact ⟨rfl, rfl⟩
  · have e : isDec c = false := by unfold isDec; simp [h]
    have h' : c < (48 : Int) := by omega
    rw [e]
    clear h
    go_enter Tryz.func84, Tryz.ntmps84
    go_wp2
    go_ret
    exact ⟨rfl, rfl⟩
theorem lowr_any (c : Int) (w : World) : Calls Tryz.prog 103 #[.int .i32 c] w fun e w' => e = .returned (.int .i32 (lowr c)) ∧ w' = w := by
  go_enter Tryz.func103, Tryz.ntmps103
  go_wp2
  go_ret
  exact ⟨rfl, rfl⟩
theorem nf_neq (w : World) : (binOp .neq 92 .nilFunc .nilFunc).run Tryz.prog w = .ok (.bool false) w := by kernel_rfl

set_option maxHeartbeats 1000000 in
set_option maxRecDepth 100000 in
theorem idn_any (B P RD : Nat) (f : Flds) (w : World) (h : Core B P RD f w) (c i : Int) :
    Calls Tryz.prog 82 #[.pointer (some ⟨P, 0, none⟩), .int .i32 c, .int .i64 i] w fun e w' => e = .returned (.bool (isIdn c i)) ∧ w' = w := by
  have c0 := h.c_id
  have hnf := nf_neq
  clear h
  have hlow := lowr_any c
  have hdec := dec_any c
  unfold isIdn
  generalize lowr c = y at *
  generalize isDec c = d at *
  by_cases h1 : c = 95
  · have h1' : (c == 95) = true := by simp [h1]
    have e : ((c == 95) || (decide (97 ≤ y) && decide (y ≤ 122)) || (d && decide (0 < i))) = true := by rw [h1']; rfl
    clear h1
    rw [e]
    clear e
    go_enter Tryz.func82, Tryz.ntmps82
    go_wp2_with (first | (go_at_call 103; refine (hlow _).mono ?_; rintro e w' ⟨rfl, rfl⟩) | (go_at_call 84; refine (hdec _).mono ?_; rintro e w' ⟨rfl, rfl⟩))
    go_ret
    exact ⟨rfl, rfl⟩
  · have h1' : (c == 95) = false := by simpa using h1
    clear h1
    by_cases h2 : 97 ≤ y
    · by_cases h3 : y ≤ 122
      · have e : ((c == 95) || (decide (97 ≤ y) && decide (y ≤ 122)) || (d && decide (0 < i))) = true := by simp [h2, h3]
        rw [e]
        clear e
        go_enter Tryz.func82, Tryz.ntmps82
        go_wp2_with (first | (go_at_call 103; refine (hlow _).mono ?_; rintro e w' ⟨rfl, rfl⟩) | (go_at_call 84; refine (hdec _).mono ?_; rintro e w' ⟨rfl, rfl⟩))
        go_ret
        exact ⟨rfl, rfl⟩
      · have h3' : decide (y ≤ 122) = false := by simp; omega
        cases d
        · have e : ((c == 95) || (decide (97 ≤ y) && decide (y ≤ 122)) || (false && decide (0 < i))) = false := by simp [h1', h3]
          clear h3
          rw [e]
          clear e
          go_enter Tryz.func82, Tryz.ntmps82
          go_wp2_with (first | (go_at_call 103; refine (hlow _).mono ?_; rintro e w' ⟨rfl, rfl⟩) | (go_at_call 84; refine (hdec _).mono ?_; rintro e w' ⟨rfl, rfl⟩))
          go_ret
          exact ⟨rfl, rfl⟩
        · have e : ((c == 95) || (decide (97 ≤ y) && decide (y ≤ 122)) || (true && decide (0 < i))) = decide (0 < i) := by simp [h1', h3]
          clear h3
          rw [e]
          clear e
          go_enter Tryz.func82, Tryz.ntmps82
          go_wp2_with (first | (go_at_call 103; refine (hlow _).mono ?_; rintro e w' ⟨rfl, rfl⟩) | (go_at_call 84; refine (hdec _).mono ?_; rintro e w' ⟨rfl, rfl⟩))
          go_ret
          exact ⟨rfl, rfl⟩
    · have h2' : decide (97 ≤ y) = false := by simp; omega
      cases d
      · have e : ((c == 95) || (decide (97 ≤ y) && decide (y ≤ 122)) || (false && decide (0 < i))) = false := by simp [h1', h2]
        clear h2
        rw [e]
        clear e
        go_enter Tryz.func82, Tryz.ntmps82
        go_wp2_with (first | (go_at_call 103; refine (hlow _).mono ?_; rintro e w' ⟨rfl, rfl⟩) | (go_at_call 84; refine (hdec _).mono ?_; rintro e w' ⟨rfl, rfl⟩))
        go_ret
        exact ⟨rfl, rfl⟩
      · have e : ((c == 95) || (decide (97 ≤ y) && decide (y ≤ 122)) || (true && decide (0 < i))) = decide (0 < i) := by simp [h1', h2]
        clear h2
        rw [e]
        clear e
        go_enter Tryz.func82, Tryz.ntmps82
        go_wp2_with (first | (go_at_call 103; refine (hlow _).mono ?_; rintro e w' ⟨rfl, rfl⟩) | (go_at_call 84; refine (hdec _).mono ?_; rintro e w' ⟨rfl, rfl⟩))
        go_ret
        exact ⟨rfl, rfl⟩

theorem nxt_bound {T : ByteArray} (hA : Asc T) (q : Nat) : -1 ≤ nxt T q ∧ nxt T q < 128 := by
  unfold nxt
  split
  · rename_i h
    have := hA q h
    omega
  · omega
theorem SAt.s_ch {B P RD : Nat} {tk : Option Nat} {q : Nat} {f : Flds} {w : World} (h : SAt B P RD tk q f w) (x : Int) : SAt B P RD tk q { f with ch := x } (w.setCell ⟨P, 1038, none⟩ (.int .i32 x)) := by
  obtain ⟨hc, o, e, p, l, h1, h2, h3, h4, h5⟩ := h
  refine ⟨hc.s_ch x, o, e, p, l, h1, ⟨h2.off, h2.fin, h2.pos, h2.hp, h2.he, h2.hT, h2.ri, h2.buf, h2.sen, h2.lcl⟩, h3, h4, ?_⟩
  cases tk with
  | none => exact h5
  | some t => exact h5

set_option maxHeartbeats 1000000 in
set_option maxRecDepth 100000 in
theorem peek_old (P : Nat) (x : Int) (w : World) (c : w.cell? ⟨P, 1038, none⟩ = some (.int .i32 x)) (hx : x ≠ -2) :
    Calls Tryz.prog 79 #[.pointer (some ⟨P, 0, none⟩)] w fun en w' => en = .returned (.int .i32 x) ∧ w' = w := by
  have hx' : (x == -2) = false := by simpa using hx
  clear hx
  go_enter Tryz.func79, Tryz.ntmps79
  go_wp2
  go_ret
  exact ⟨rfl, rfl⟩
set_option maxHeartbeats 1000000 in
set_option maxRecDepth 100000 in
theorem peek_new (B P RD : Nat) (f : Flds) (w : World) (q : Nat) (tk : Option Nat) (h : SAt B P RD tk q f w) (hA : Asc f.T) (hsz : f.T.size ≤ 100000) (hW : ScW B w) (hc : f.ch = -2) :
    Calls Tryz.prog 79 #[.pointer (some ⟨P, 0, none⟩)] w fun en w' =>
      ∃ f', en = .returned (.int .i32 (nxt f.T q)) ∧ SAt B P RD tk (adv f.T q) f' w' ∧ f'.T = f.T ∧ f'.err = f.err ∧ f'.ec = f.ec ∧ f'.pk = f.pk ∧ f'.ch = nxt f.T q ∧ f'.lcl = one f.T q ∧ Fr B P RD w w' := by
  have c1 := h.core.c_ch
  rw [hc] at c1
  have hP := h.core.hP
  have HN := Lib.hid (nx_any B P RD f w q tk h hA hsz hW)
  have HX := Lib.hid (nxt_bound hA q)
  clear h hW hc
  go_enter Tryz.func79, Tryz.ntmps79
  go_wp2_with fail
  refine HN.out.mono ?_
  rintro e w1 ⟨f1, rfl, h1, hk, hl, hf⟩
  have hx := HX.out
  generalize hxx : nxt f.T q = x at *
  have hx1 : (x == 65279) = false := by simp; omega
  have d1 := h1.core.c_ch
  have d2 := h1.core.frz 1038
  have H1 := Lib.hid h1
  have HF := Lib.hid hf
  have HXX := Lib.hid hxx
  clear h1 hf hx HN hxx
  go_wp2
  go_ret
  exact ⟨_, by rw [HXX.out]; rfl, H1.out.s_ch x, hk.T, hk.err, hk.ec, hk.pk, HXX.out.symm, hl, HF.out.sP hP _ _⟩
end Go.Proofs.YthfjakbpeclfcaaGreatDoor

namespace Go.Proofs.YthfjakbpeclfcaaGreatDoor
open Go.RowKit Go

/-- No byte of the text is '_'. -/
def NoU (T : ByteArray) : Prop := ∀ i, nxt T i ≠ 95
theorem nxt_lt {T : ByteArray} {i : Nat} (h : nxt T i ≠ -1) : i < T.size := by
  unfold nxt at h
  split at h
  · assumption
  · exact absurd rfl h
theorem adv_lt {T : ByteArray} {i : Nat} (h : i < T.size) : adv T i = i + 1 := if_pos h
theorem isDec_ne {c : Int} (h : isDec c = true) : 48 ≤ c ∧ c ≤ 57 := by
  unfold isDec at h
  simp at h
  exact h

/-- The scanner with the char at i ahead. -/
structure At (B P RD : Nat) (tk : Option Nat) (i : Nat) (f : Flds) (w : World) : Prop where
  s : SAt B P RD tk (adv f.T i) f w
  lcl : f.lcl = one f.T i
  asc : Asc f.T
  nou : NoU f.T
  sz : f.T.size ≤ 100000
theorem At.next {B P RD : Nat} {tk : Option Nat} {i : Nat} {f : Flds} {w : World} (h : At B P RD tk i f w) (hi : i < f.T.size) (hW : ScW B w) :
    Calls Tryz.prog 80 #[.pointer (some ⟨P, 0, none⟩)] w fun en w' => ∃ f', en = .returned (.int .i32 (nxt f.T (i + 1))) ∧ At B P RD tk (i + 1) f' w' ∧ Keep f f' ∧ Fr B P RD w w' := by
  refine (nx_any B P RD f w _ tk h.s h.asc h.sz hW).mono ?_
  rintro en w' ⟨f', rfl, h1, h2, h3, h4⟩
  rw [adv_lt hi] at h1 h3 ⊢
  exact ⟨f', rfl, ⟨by rw [h2.T]; exact h1, by rw [h2.T]; exact h3, by rw [h2.T]; exact h.asc, by rw [h2.T]; exact h.nou, by rw [h2.T]; exact h.sz⟩, h2, h4⟩
theorem At.drewN {B P RD : Nat} {tk : Option Nat} {i : Nat} {f : Flds} {w : World} (h : At B P RD tk i f w) (n : Nat) : At B P RD tk i f (w.drewN n) :=
  ⟨⟨h.s.core.drewN n, h.s.inv⟩, h.lcl, h.asc, h.nou, h.sz⟩

set_option maxHeartbeats 2000000 in
set_option maxRecDepth 100000 in
theorem digits10 (B P RD : Nat) (f : Flds) (w : World) (tk : Option Nat) (i : Nat) (pv : Option Addr) (h : At B P RD tk i f w) (hW : ScW B w) :
    Calls Tryz.prog 104 #[.pointer (some ⟨P, 0, none⟩), .int .i32 (nxt f.T i), .int .i64 10, .pointer pv] w fun en w' => ∃ k f', en = .returned (.tuple #[.int .i32 (nxt f.T (i + k)), .int .i64 (if k = 0 then 0 else 1)]) ∧
      (∀ j, j < k → isDec (nxt f.T (i + j)) = true) ∧ isDec (nxt f.T (i + k)) = false ∧ At B P RD tk (i + k) f' w' ∧ Keep f f' ∧ Fr B P RD w w' := by
  have H := Lib.hid h
  have HW := Lib.hid hW
  clear h hW
  go_enter Tryz.func104, Tryz.ntmps104
  go_wp2
  go_loopg [8, 9] (f.T.size + 1 - i) (fun G s8 s9 wr => ∃ (k : Nat) (g : Flds), s8 = .int .i32 (nxt f.T (i + k)) ∧ s9 = .int .i64 (if k = 0 then 0 else 1) ∧ G = f.T.size + 1 - (i + k) ∧ (∀ j, j < k → isDec (nxt f.T (i + j)) = true) ∧
    At B P RD tk (i + k) g wr ∧ Keep f g ∧ Fr B P RD w wr)
  case atStart => exact ⟨0, f, rfl, rfl, rfl, fun j hj => absurd hj (Nat.not_lt_zero j), H.out, Keep.refl f, Fr.refl⟩
  case round =>
    obtain ⟨k, g, rfl, rfl, hG, hall, hat, hkp, hfr⟩ := hrel
    have hno := H.out.nou (i + k)
    cases hd : isDec (nxt f.T (i + k))
    · have hno' : (nxt f.T (i + k) == 95) = false := by simpa using hno
      have hdec := dec_any (nxt f.T (i + k))
      rw [hd] at hdec
      have HALL := Lib.hid hall
      have HD := Lib.hid hd
      have HAT := Lib.hid hat
      have HFR := Lib.hid hfr
      have HG := Lib.hid hG
      have HKP := Lib.hid hkp
      clear hall hat hfr hG hd hno hkp
      generalize hcc : nxt f.T (i + k) = c at *
      have HCC := Lib.hid hcc
      clear hcc
      generalize hdd : (if k = 0 then (0 : Int) else 1) = dd at *
      have HDD := Lib.hid hdd
      clear hdd
      go_wp2_with (go_at_call 84; refine (hdec _).mono ?_; rintro e w' ⟨rfl, rfl⟩)
      refine bodyPost_ret (results_tmp2 rfl _ _ _) rfl ?_
      exact ⟨k, g, by rw [HCC.out, HDD.out]; rfl, HALL.out, by rw [HCC.out]; exact HD.out, HAT.out, HKP.out, HFR.out⟩
    · obtain ⟨hc0, hc1⟩ := isDec_ne hd
      have hlt : i + k < f.T.size := nxt_lt (by omega)
      have hdec := dec_any (nxt f.T (i + k))
      rw [hd] at hdec
      have hno' : (nxt f.T (i + k) == 95) = false := by simpa using hno
      have h58 : decide (58 ≤ nxt f.T (i + k)) = false := decide_eq_false (by omega)
      have hor : bits .or .i64 (if k = 0 then (0 : Int) else 1) 1 = 1 := by split <;> decide
      have hnx := hat.next (by rw [hkp.T]; exact hlt) (HW.out.below hfr.bel)
      rw [hkp.T] at hnx
      have HALL := Lib.hid hall
      have HD := Lib.hid hd
      have HFR := Lib.hid hfr
      have HG := Lib.hid hG
      have HKP := Lib.hid hkp
      have HLT := Lib.hid hlt
      have HNX := Lib.hid hnx
      clear hall hat hfr hG hd hno hkp hc0 hc1 hlt hnx
      generalize hcc : nxt f.T (i + k) = c at *
      have HCC := Lib.hid hcc
      clear hcc
      generalize (if k = 0 then (0 : Int) else 1) = dd at *
      go_wp2_with (first | (go_at_call 84; refine (hdec _).mono ?_; rintro e w' ⟨rfl, rfl⟩) | (go_at_call 80; refine HNX.out.mono ?_; rintro e w' ⟨f', rfl, hat', hkp', hfr'⟩))
      go_roundg (gk - 1)
      case measure => have := HG.out; have := HLT.out; omega
      case rel =>
        refine ⟨k + 1, f', rfl, by simp, by have := HG.out; have := HLT.out; omega, ?_, hat', HKP.out.trans hkp', HFR.out.trans hfr'⟩
        intro j hj
        rcases Nat.lt_or_ge j k with h | h
        · exact HALL.out j h
        · rw [show j = k from by omega, HCC.out]
          exact HD.out

/-- A frame that leaves out one more block (a variable of the caller). -/
structure FrV (B P RD iv : Nat) (w w' : World) : Prop where
  bel : Below B w w'
  kept : ∀ k x, w.heap[k]? = some x → k ≠ P → k ≠ RD → k ≠ iv → (∀ cs fz, x ≠ .cells cs 5 fz) → w'.heap[k]? = some x
theorem Fr.v {B P RD : Nat} {w w' : World} (h : Fr B P RD w w') (iv : Nat) : FrV B P RD iv w w' := ⟨h.bel, fun k x a b c _ e => h.kept k x a b c e⟩
theorem FrV.trans {B P RD iv : Nat} {w w1 w2 : World} (h : FrV B P RD iv w w1) (k : FrV B P RD iv w1 w2) : FrV B P RD iv w w2 := ⟨h.bel.trans k.bel, fun i x a b c d e => k.kept i x (h.kept i x a b c d e) b c d e⟩
theorem FrV.siv {B P RD iv : Nat} {w w1 : World} (h : FrV B P RD iv w w1) (hB : B ≤ iv) (v : Value) : FrV B P RD iv w (w1.setCell ⟨iv, 0, none⟩ v) :=
  ⟨h.bel.setCell (p := ⟨iv, 0, none⟩) hB v, fun k x a b c d e => (Below.heap_setCell _ _ _ _ d).trans (h.kept k x a b c d e)⟩
theorem Core.other {B P RD iv : Nat} {f : Flds} {w : World} (h : Core B P RD f w) {c : Array Value} (hiv : w.heap[iv]? = some (.cells c 21 (0, 0))) (h1 : iv ≠ P) (h2 : iv ≠ RD) (v : Value) : Core B P RD f (w.setCell ⟨iv, 0, none⟩ v) := by
  obtain ⟨hB, u, lr, hbk, hown, hne⟩ := h.b
  have hkp : u.ownBlock ≠ some iv := by
    rcases hown.2 with ⟨rfl, _⟩ | ⟨g, cap, cur, rfl, hBg, hg, _⟩
    · simp [Value.ownBlock]
    · simp only [Value.ownBlock, ne_eq, Option.some.injEq]
      rintro rfl
      rw [hiv] at hg
      injection hg with hg
      injection hg with _ e _
      exact absurd e (by decide)
  exact ⟨⟨hB, u, lr, hbk.of_heap (Below.heap_setCell _ _ _ _ (Ne.symm h1)), hown.kept (Lib.grownBy_setCell w iv 0 _) (Or.inr hkp), hne⟩, by simpa [World.setCell] using h.hs, h.hr, h.ne, (Below.heap_setCell _ _ _ _ (Ne.symm h2)).trans h.r⟩
theorem At.other {B P RD iv i : Nat} {tk : Option Nat} {f : Flds} {w : World} (h : At B P RD tk i f w) {c : Array Value} (hiv : w.heap[iv]? = some (.cells c 21 (0, 0))) (h1 : iv ≠ P) (h2 : iv ≠ RD) (v : Value) : At B P RD tk i f (w.setCell ⟨iv, 0, none⟩ v) :=
  ⟨⟨h.s.core.other hiv h1 h2 v, h.s.inv⟩, h.lcl, h.asc, h.nou, h.sz⟩
def Iv (iv : Nat) (v : Int) (w : World) : Prop := w.heap[iv]? = some (.cells #[.int .i32 v] 21 (0, 0))
theorem Iv.cell {iv : Nat} {v : Int} {w : World} (h : Iv iv v w) : w.cell? ⟨iv, 0, none⟩ = some (.int .i32 v) := by rw [Lib.cell_of_heap h]; rfl
theorem Iv.frz {iv : Nat} {v : Int} {w : World} (h : Iv iv v w) : w.frozen? ⟨iv, 0, none⟩ = false := Lib.frozen_of_heap h 0
theorem Iv.set {iv : Nat} {v : Int} {w : World} (h : Iv iv v w) (x : Int) : Iv iv x (w.setCell ⟨iv, 0, none⟩ (.int .i32 x)) := Lib.heap_setCell_same (i := 0) h _
theorem Iv.fr {B P RD iv : Nat} {v : Int} {w w' : World} (h : Iv iv v w) (hf : Fr B P RD w w') (h1 : iv ≠ P) (h2 : iv ≠ RD) : Iv iv v w' :=
  hf.kept iv _ h h1 h2 (fun cs fz e => by injection e with _ e _; exact absurd e (by decide))

set_option maxHeartbeats 2000000 in
set_option maxRecDepth 100000 in
theorem digits8 (B P RD iv : Nat) (f : Flds) (w : World) (tk : Option Nat) (i : Nat) (v0 : Int) (h : At B P RD tk i f w) (hW : ScW B w) (hv : Iv iv v0 w) (hn1 : iv ≠ P) (hn2 : iv ≠ RD) (hB : B ≤ iv) :
    Calls Tryz.prog 104 #[.pointer (some ⟨P, 0, none⟩), .int .i32 (nxt f.T i), .int .i64 8, .pointer (some ⟨iv, 0, none⟩)] w fun en w' => ∃ k f' v, en = .returned (.tuple #[.int .i32 (nxt f.T (i + k)), .int .i64 (if k = 0 then 0 else 1)]) ∧
      (∀ j, j < k → isDec (nxt f.T (i + j)) = true) ∧ isDec (nxt f.T (i + k)) = false ∧ At B P RD tk (i + k) f' w' ∧ Keep f f' ∧ FrV B P RD iv w w' ∧ Iv iv v w' ∧ (k = 0 → v = v0) := by
  have H := Lib.hid h
  have HW := Lib.hid hW
  have HV := Lib.hid hv
  clear h hW hv
  go_enter Tryz.func104, Tryz.ntmps104
  go_wp2
  go_loopg [8, 9] (f.T.size + 1 - i) (fun G s8 s9 wr => ∃ (k : Nat) (g : Flds) (v : Int), s8 = .int .i32 (nxt f.T (i + k)) ∧ s9 = .int .i64 (if k = 0 then 0 else 1) ∧ G = f.T.size + 1 - (i + k) ∧ (∀ j, j < k → isDec (nxt f.T (i + j)) = true) ∧
    At B P RD tk (i + k) g wr ∧ Keep f g ∧ FrV B P RD iv w wr ∧ Iv iv v wr ∧ (k = 0 → v = v0))
  case atStart => exact ⟨0, f, v0, rfl, rfl, rfl, fun j hj => absurd hj (Nat.not_lt_zero j), H.out, Keep.refl f, Fr.refl.v iv, HV.out, fun _ => rfl⟩
  case round =>
    obtain ⟨k, g, v, rfl, rfl, hG, hall, hat, hkp, hfr, hiv, hk0⟩ := hrel
    have hno := H.out.nou (i + k)
    cases hd : isDec (nxt f.T (i + k))
    · have hno' : (nxt f.T (i + k) == 95) = false := by simpa using hno
      have hdec := dec_any (nxt f.T (i + k))
      rw [hd] at hdec
      have HALL := Lib.hid hall
      have HD := Lib.hid hd
      have HAT := Lib.hid hat
      have HFR := Lib.hid hfr
      have HG := Lib.hid hG
      have HKP := Lib.hid hkp
      have HIV := Lib.hid hiv
      clear hall hat hfr hG hd hno hkp hiv
      generalize hcc : nxt f.T (i + k) = c at *
      have HCC := Lib.hid hcc
      clear hcc
      generalize hdd : (if k = 0 then (0 : Int) else 1) = dd at *
      have HDD := Lib.hid hdd
      clear hdd
      go_wp2_with (go_at_call 84; refine (hdec _).mono ?_; rintro e w' ⟨rfl, rfl⟩)
      refine bodyPost_ret (results_tmp2 rfl _ _ _) rfl ?_
      exact ⟨k, g, v, by rw [HCC.out, HDD.out]; rfl, HALL.out, by rw [HCC.out]; exact HD.out, HAT.out, HKP.out, HFR.out, HIV.out, hk0⟩
    · obtain ⟨hc0, hc1⟩ := isDec_ne hd
      have hlt : i + k < f.T.size := nxt_lt (by omega)
      have hdec := dec_any (nxt f.T (i + k))
      rw [hd] at hdec
      have hno' : (nxt f.T (i + k) == 95) = false := by simpa using hno
      have hor : bits .or .i64 (if k = 0 then (0 : Int) else 1) 1 = 1 := by split <;> decide
      have hW' := HW.out.below hfr.bel
      have HALL := Lib.hid hall
      have HD := Lib.hid hd
      have HFR := Lib.hid hfr
      have HG := Lib.hid hG
      have HKP := Lib.hid hkp
      have HLT := Lib.hid hlt
      have HAT := Lib.hid hat
      have HIV := Lib.hid hiv
      have HW' := Lib.hid hW'
      have ci := hiv.cell
      have zi := hiv.frz
      clear hall hat hfr hG hd hno hkp hlt hiv hW' hk0
      have fin : ∀ (W : World) (u : Int), At B P RD tk (i + k) g W → Iv iv u W → FrV B P RD iv w W → Calls Tryz.prog 80 #[.pointer (some ⟨P, 0, none⟩)] W fun en w' => ∃ f', en = .returned (.int .i32 (nxt f.T (i + k + 1))) ∧
          At B P RD tk (i + k + 1) f' w' ∧ Keep f f' ∧ FrV B P RD iv w w' ∧ Iv iv u w' := by
        intro W u ha hi hf
        have := ha.next (by rw [HKP.out.T]; exact HLT.out) (HW.out.below hf.bel)
        rw [HKP.out.T] at this
        refine this.mono ?_
        rintro en w' ⟨f', rfl, a1, a2, a3⟩
        exact ⟨f', rfl, a1, HKP.out.trans a2, hf.trans (a3.v iv), hi.fr a3 hn1 hn2⟩
      have HFIN := Lib.hid fin
      clear fin
      generalize hcc : nxt f.T (i + k) = c at *
      have HCC := Lib.hid hcc
      clear hcc
      generalize (if k = 0 then (0 : Int) else 1) = dd at *
      have hall2 : ∀ j, j < k + 1 → isDec (nxt f.T (i + j)) = true := by
        intro j hj
        rcases Nat.lt_or_ge j k with h | h
        · exact HALL.out j h
        · rw [show j = k from by omega, HCC.out]
          exact HD.out
      have HALL2 := Lib.hid hall2
      clear hall2
      by_cases h56 : 56 ≤ c
      · have h56' : decide (56 ≤ c) = true := decide_eq_true h56
        clear h56
        by_cases hv0 : v = 0
        · subst hv0
          have hA2 := HAT.out.other HIV.out hn1 hn2 (.int .i32 c)
          have hI2 := HIV.out.set c
          have hF2 := HFR.out.siv hB (.int .i32 c)
          have HN := Lib.hid (HFIN.out _ c hA2 hI2 hF2)
          clear hA2 hI2 hF2
          go_wp2_with (first | (go_at_call 84; refine (hdec _).mono ?_; rintro e w' ⟨rfl, rfl⟩) | (go_at_call 80; refine HN.out.mono ?_; rintro e w' ⟨f', rfl, b1, b2, b3, b4⟩))
          go_roundg (gk - 1)
          case measure => have := HG.out; have := HLT.out; omega
          case rel => exact ⟨k + 1, f', c, rfl, by simp, by have := HG.out; have := HLT.out; omega, HALL2.out, b1, b2, b3, b4, fun e => absurd e (by omega)⟩
        · have hv0' : (v == 0) = false := by simpa using hv0
          have HN := Lib.hid (HFIN.out _ v HAT.out HIV.out HFR.out)
          go_wp2_with (first | (go_at_call 84; refine (hdec _).mono ?_; rintro e w' ⟨rfl, rfl⟩) | (go_at_call 80; refine HN.out.mono ?_; rintro e w' ⟨f', rfl, b1, b2, b3, b4⟩))
          go_roundg (gk - 1)
          case measure => have := HG.out; have := HLT.out; omega
          case rel => exact ⟨k + 1, f', v, rfl, by simp, by have := HG.out; have := HLT.out; omega, HALL2.out, b1, b2, b3, b4, fun e => absurd e (by omega)⟩
      · have h56' : decide (56 ≤ c) = false := decide_eq_false h56
        clear h56
        have HN := Lib.hid (HFIN.out _ v HAT.out HIV.out HFR.out)
        go_wp2_with (first | (go_at_call 84; refine (hdec _).mono ?_; rintro e w' ⟨rfl, rfl⟩) | (go_at_call 80; refine HN.out.mono ?_; rintro e w' ⟨f', rfl, b1, b2, b3, b4⟩))
        go_roundg (gk - 1)
        case measure => have := HG.out; have := HLT.out; omega
        case rel => exact ⟨k + 1, f', v, rfl, by simp, by have := HG.out; have := HLT.out; omega, HALL2.out, b1, b2, b3, b4, fun e => absurd e (by omega)⟩
end Go.Proofs.YthfjakbpeclfcaaGreatDoor

namespace Go.Proofs.YthfjakbpeclfcaaGreatDoor
open Go.RowKit Go

theorem isIdn_pos (c i : Int) (h : 0 < i) : isIdn c i = isIdn c 1 := by
  unfold isIdn
  have : decide (0 < i) = decide ((0 : Int) < 1) := by simp [h]
  rw [this]
theorem isIdn_end (i : Int) : isIdn (-1) i = false := by
  have : lowr (-1) = -1 := by decide
  have h2 : isDec (-1) = false := by decide
  unfold isIdn
  rw [this, h2]
  rfl
set_option maxHeartbeats 2000000 in
set_option maxRecDepth 100000 in
theorem ident_any (B P RD : Nat) (f : Flds) (w : World) (tk : Option Nat) (i : Nat) (h : At B P RD tk i f w) (hi : i < f.T.size) (hW : ScW B w) :
    Calls Tryz.prog 83 #[.pointer (some ⟨P, 0, none⟩)] w fun en w' => ∃ k f', en = .returned (.int .i32 (nxt f.T (i + 1 + k))) ∧
      (∀ j, j < k → isIdn (nxt f.T (i + 1 + j)) 1 = true) ∧ isIdn (nxt f.T (i + 1 + k)) 1 = false ∧ At B P RD tk (i + 1 + k) f' w' ∧ Keep f f' ∧ Fr B P RD w w' := by
  have HN := Lib.hid (h.next hi hW)
  have HW := Lib.hid hW
  have hsz := h.sz
  clear h hW
  go_enter Tryz.func83, Tryz.ntmps83
  go_wp2_with (go_at_call 80; refine HN.out.mono ?_; rintro e w' ⟨f1, rfl, a1, a2, a3⟩)
  go_loopg [3, 4] (f.T.size + 1 - (i + 1)) (fun G s3 s4 wr => ∃ (k : Nat) (g : Flds), s3 = .int .i32 (nxt f.T (i + 1 + k)) ∧ s4 = .int .i64 ((k : Int) + 1) ∧ G = f.T.size + 1 - (i + 1 + k) ∧ (∀ j, j < k → isIdn (nxt f.T (i + 1 + j)) 1 = true) ∧ k ≤ f.T.size ∧
    At B P RD tk (i + 1 + k) g wr ∧ Keep f g ∧ Fr B P RD w wr)
  case atStart => exact ⟨0, f1, rfl, rfl, rfl, fun j hj => absurd hj (Nat.not_lt_zero j), Nat.zero_le _, a1, a2, a3⟩
  case round =>
    obtain ⟨k, g, rfl, rfl, hG, hall, hkn, hat, hkp, hfr⟩ := hrel
    have hid := idn_any B P RD g wr hat.s.core (nxt f.T (i + 1 + k)) ((k : Int) + 1)
    rw [isIdn_pos _ _ (by omega)] at hid
    have hkn' : (k : Int) + 1 ≤ 100001 := by omega
    have hkn0 : (0 : Int) ≤ (k : Int) + 1 := by omega
    have HALL := Lib.hid hall
    have HAT := Lib.hid hat
    have HFR := Lib.hid hfr
    have HG := Lib.hid hG
    have HKP := Lib.hid hkp
    cases hd : isIdn (nxt f.T (i + 1 + k)) 1
    · rw [hd] at hid
      have HD := Lib.hid hd
      clear hall hat hfr hG hd hkp a1 a2 a3
      generalize hcc : nxt f.T (i + 1 + k) = c at *
      have HCC := Lib.hid hcc
      clear hcc
      go_wp2_with (go_at_call 82; refine hid.mono ?_; rintro e w' ⟨rfl, rfl⟩)
      go_ret
      exact ⟨k, g, by rw [HCC.out]; rfl, HALL.out, by rw [HCC.out]; exact HD.out, HAT.out, HKP.out, HFR.out⟩
    · rw [hd] at hid
      have hlt : i + 1 + k < f.T.size := nxt_lt (fun e => by rw [e, isIdn_end] at hd; cases hd)
      have hnx := hat.next (by rw [hkp.T]; exact hlt) (HW.out.below hfr.bel)
      rw [hkp.T] at hnx
      have HNX := Lib.hid hnx
      have HLT := Lib.hid hlt
      have HD := Lib.hid hd
      clear hall hat hfr hG hd hkp hnx hlt a1 a2 a3
      generalize hcc : nxt f.T (i + 1 + k) = c at *
      have HCC := Lib.hid hcc
      clear hcc
      go_wp2_with (first | (go_at_call 82; refine hid.mono ?_; rintro e w' ⟨rfl, rfl⟩) | (go_at_call 80; refine HNX.out.mono ?_; rintro e w' ⟨f2, rfl, b1, b2, b3⟩))
      go_roundg (gk - 1)
      case measure => have := HG.out; have := HLT.out; omega
      case rel =>
        refine ⟨k + 1, f2, rfl, by go_num, by have := HG.out; have := HLT.out; omega, ?_, by have := HLT.out; omega, b1, HKP.out.trans b2, HFR.out.trans b3⟩
        intro j hj
        rcases Nat.lt_or_ge j k with h | h
        · exact HALL.out j h
        · rw [show j = k from by omega, HCC.out]
          exact HD.out

set_option maxHeartbeats 1000000 in
set_option maxRecDepth 100000 in
/-- Reset of the token's buffer. -/
theorem reset_any (B P RD : Nat) (f : Flds) (w : World) (h : Core B P RD f w) :
    Calls Tryz.prog 81 #[.pointer (some ⟨P, 1033, none⟩)] w fun en w' => en = .returned (.tuple #[]) ∧ Core B P RD { f with tb := [] } w' ∧ Fr B P RD w w' := by
  have hP := h.hP
  obtain ⟨-, lr, hcase⟩ := h.b.cases
  rcases hcase with ⟨hnil, h3⟩ | ⟨g, cap, cur, h3, hBg, hg, hlc, hcm, hcs, htk, hgP⟩
  · have d0 := h3.c0
    have d1 := h3.c1
    have d2 := h3.c2
    have z := h.frz
    have H := Lib.hid h
    have H3 := Lib.hid h3
    clear h h3 hnil
    go_enter Tryz.func81, Tryz.ntmps81
    go_wp2
    refine bodyPost_end (results_none rfl _ _ _) rfl ?_
    refine ⟨rfl, ⟨?_, by simpa [World.setCell] using H.out.hs, H.out.hr, H.out.ne, ?_⟩, ((Fr.refl.sP hP _ _).sP hP _ _).sP hP _ _⟩
    · exact LibA.zero_isBuffer hP (((H3.out.set0 (.slice none 0 0)).set1 (.int .i64 0)).set2 (.int .i8 0))
    · rw [Below.heap_setCell _ _ _ _ H.out.ne, Below.heap_setCell _ _ _ _ H.out.ne, Below.heap_setCell _ _ _ _ H.out.ne]
      exact H.out.r
  · have d0 := h3.c0
    have d1 := h3.c1
    have d2 := h3.c2
    have z := h.frz
    have hlc' : ((Lib.byteCells f.tb).length : Int) ≤ cap := by omega
    unfold maxLen at hcm
    have H := Lib.hid h
    have H3 := Lib.hid h3
    clear h h3
    go_enter Tryz.func81, Tryz.ntmps81
    go_wp2
    refine bodyPost_end (results_none rfl _ _ _) rfl ?_
    have hf : ∀ v1 v2 v3, (((w.setCell ⟨P, 1033, none⟩ v1).setCell ⟨P, 1034, none⟩ v2).setCell ⟨P, 1035, none⟩ v3).heap[g]? = some (.cells cur 5 (0, 0)) := by
      intro v1 v2 v3
      rw [Below.heap_setCell _ _ _ _ hgP, Below.heap_setCell _ _ _ _ hgP, Below.heap_setCell _ _ _ _ hgP]
      exact hg
    refine ⟨rfl, ⟨?_, by simpa [World.setCell] using H.out.hs, H.out.hr, H.out.ne, ?_⟩, ((Fr.refl.sP hP _ _).sP hP _ _).sP hP _ _⟩
    · exact LibA.isBuffer_mk (cur := cur) hP (((H3.out.set0 (.slice (some ⟨g, 0, none⟩) 0 cap)).set1 (.int .i64 0)).set2 (.int .i8 0)) hBg (hf _ _ _) (Nat.zero_le _) (by unfold maxLen; omega) hcs hgP
    · rw [Below.heap_setCell _ _ _ _ H.out.ne, Below.heap_setCell _ _ _ _ H.out.ne, Below.heap_setCell _ _ _ _ H.out.ne]
      exact H.out.r
end Go.Proofs.YthfjakbpeclfcaaGreatDoor
