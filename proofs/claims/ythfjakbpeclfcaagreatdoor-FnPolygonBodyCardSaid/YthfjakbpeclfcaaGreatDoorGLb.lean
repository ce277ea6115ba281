/-
  Plain: the reference's tokens of a text, and those of the tokens joined again.
  Plain: the reference's tokens are the scanner's, and what ParseFloat makes of each.
-/
import Derived.Test.YthfjakbpeclfcaaGreatDoorLx
import Derived.Test.YthfjakbpeclfcaaGreatDoorRf
import Derived.Test.YthfjakbpeclfcaaGreatDoorGLn
namespace Go.Proofs.YthfjakbpeclfcaaGreatDoor
open Go.RowKit Go

def letB (c : UInt8) : Bool := (decide (97 ≤ c.toNat) && decide (c.toNat ≤ 122)) || (decide (65 ≤ c.toNat) && decide (c.toNat ≤ 90))
def blk (c : UInt8) : Bool := decide (c.toNat = 32) || decide (c.toNat = 9) || decide (c.toNat = 10) || decide (c.toNat = 13)
def sgB (c : UInt8) : Bool := decide (c.toNat = 40) || decide (c.toNat = 41) || decide (c.toNat = 44) || decide (c.toNat = 45)
def lets : List UInt8 → Nat
  | [] => 0
  | c :: cs => if letB c then lets cs + 1 else 0
def wl : List UInt8 → Nat
  | [] => 0
  | c :: cs => if letB c then lets (c :: cs) else decN (c :: cs)
def kdB (c : UInt8) : Nat := if letB c then 97 else 49
def rtk : Nat → Bool → List UInt8 → Option (List (Nat × ByteArray))
  | 0, _, [] => some []
  | 0, _, _ :: _ => none
  | _ + 1, _, [] => some []
  | f + 1, j, c :: R =>
    if blk c then rtk f false R
    else if sgB c then (if c.toNat = 45 ∧ j = true then none else (rtk f false R).map ((c.toNat, ⟨#[c]⟩) :: ·))
    else if wl (c :: R) = 0 ∨ j = true then none
    else (rtk f true ((c :: R).drop (wl (c :: R)))).map ((kdB c, ⟨((c :: R).take (wl (c :: R))).toArray⟩) :: ·)
inductive RT : Bool → List UInt8 → List (Nat × ByteArray) → Prop
  | nil (j : Bool) : RT j [] []
  | blk (j : Bool) (c : UInt8) (R : List UInt8) (ts : List (Nat × ByteArray)) (h : blk c = true) (hr : RT false R ts) : RT j (c :: R) ts
  | sg (j : Bool) (c : UInt8) (R : List UInt8) (ts : List (Nat × ByteArray)) (h0 : Go.Proofs.YthfjakbpeclfcaaGreatDoor.blk c = false) (h : sgB c = true) (hj : ¬ (c.toNat = 45 ∧ j = true)) (hr : RT false R ts) : RT j (c :: R) ((c.toNat, ⟨#[c]⟩) :: ts)
  | wd (c : UInt8) (R : List UInt8) (ts : List (Nat × ByteArray)) (h0 : Go.Proofs.YthfjakbpeclfcaaGreatDoor.blk c = false) (h : sgB c = false) (hw : wl (c :: R) ≠ 0) (hr : RT true ((c :: R).drop (wl (c :: R))) ts) :
      RT false (c :: R) ((kdB c, ⟨((c :: R).take (wl (c :: R))).toArray⟩) :: ts)

theorem rtk_RT : ∀ {f : Nat} {j : Bool} {L : List UInt8} {ts : List (Nat × ByteArray)}, rtk f j L = some ts → RT j L ts
  | 0, j, [], ts, h => by injection h with h; subst h; exact .nil j
  | 0, _, _ :: _, _, h => by cases h
  | _ + 1, j, [], ts, h => by injection h with h; subst h; exact .nil j
  | f + 1, j, c :: R, ts, h => by
    unfold rtk at h
    by_cases h1 : blk c = true
    · rw [if_pos h1] at h
      exact .blk j c R ts h1 (rtk_RT h)
    · rw [if_neg h1] at h
      have h1' : blk c = false := by simpa using h1
      by_cases h2 : sgB c = true
      · rw [if_pos h2] at h
        by_cases h3 : c.toNat = 45 ∧ j = true
        · rw [if_pos h3] at h; cases h
        · rw [if_neg h3] at h
          cases hr : rtk f false R with
          | none => rw [hr] at h; cases h
          | some us =>
            rw [hr] at h
            injection h with h
            subst h
            exact .sg j c R us h1' h2 h3 (rtk_RT hr)
      · rw [if_neg h2] at h
        have h2' : sgB c = false := by simpa using h2
        by_cases h3 : wl (c :: R) = 0 ∨ j = true
        · rw [if_pos h3] at h; cases h
        · rw [if_neg h3] at h
          cases hr : rtk f true ((c :: R).drop (wl (c :: R))) with
          | none => rw [hr] at h; cases h
          | some us =>
            rw [hr] at h
            injection h with h
            subst h
            have hj : j = false := by
              cases j with
              | false => rfl
              | true => exact absurd (Or.inr rfl) h3
            subst hj
            exact .wd c R us h1' h2' (fun e => h3 (.inl e)) (rtk_RT hr)
theorem RT_rtk {j : Bool} {L : List UInt8} {ts : List (Nat × ByteArray)} (h : RT j L ts) : ∀ f, L.length ≤ f → rtk f j L = some ts := by
  induction h with
  | nil j =>
    intro f _
    cases f <;> rfl
  | blk j c R ts h hr ih =>
    intro f hf
    obtain ⟨g, rfl⟩ : ∃ g, f = g + 1 := ⟨f - 1, by simp at hf; omega⟩
    unfold rtk
    rw [if_pos h]
    exact ih g (by simp at hf; omega)
  | sg j c R ts h0 h hj hr ih =>
    intro f hf
    obtain ⟨g, rfl⟩ : ∃ g, f = g + 1 := ⟨f - 1, by simp at hf; omega⟩
    unfold rtk
    rw [if_neg (by rw [h0]; decide), if_pos h, if_neg hj, ih g (by simp at hf; omega)]
    rfl
  | wd c R ts h0 h hw hr ih =>
    intro f hf
    obtain ⟨g, rfl⟩ : ∃ g, f = g + 1 := ⟨f - 1, by simp at hf; omega⟩
    unfold rtk
    rw [if_neg (by rw [h0]; decide), if_neg (by rw [h]; decide), if_neg (by rintro (e | e); exact hw e; cases e), ih g (by rw [List.length_drop]; simp at hf ⊢; omega)]
    rfl

/-- What stands behind a word or a decimal. -/
def Stop : List UInt8 → Prop
  | [] => True
  | c :: _ => blk c = true ∨ c.toNat = 40 ∨ c.toNat = 41 ∨ c.toNat = 44
theorem RT.stop {L : List UInt8} {ts : List (Nat × ByteArray)} (h : RT true L ts) : Stop L := by
  generalize hj : true = j at h
  cases h with
  | nil => exact trivial
  | blk _ c R _ h _ => exact .inl h
  | sg _ c R _ h0 h hj' _ =>
    subst hj
    unfold sgB at h
    simp at h
    rcases h with ((h | h) | h) | h
    · exact .inr (.inl h)
    · exact .inr (.inr (.inl h))
    · exact .inr (.inr (.inr h))
    · exact absurd ⟨h, rfl⟩ hj'
  | wd => cases hj
theorem stop_num {c : UInt8} {R : List UInt8} (h : Stop (c :: R)) : c.toNat = 32 ∨ c.toNat = 9 ∨ c.toNat = 10 ∨ c.toNat = 13 ∨ c.toNat = 40 ∨ c.toNat = 41 ∨ c.toNat = 44 := by
  rcases h with h | h | h | h
  · unfold blk at h
    simp at h
    omega
  · omega
  · omega
  · omega

theorem lets_app : ∀ (M R : List UInt8), (∀ c ∈ M, letB c = true) → Stop R → lets (M ++ R) = M.length
  | [], [], _, _ => rfl
  | [], c :: R, _, h => by
    have := stop_num h
    show (if letB c then lets R + 1 else 0) = 0
    rw [if_neg]
    unfold letB
    simp
    omega
  | a :: M, R, hM, h => by
    show (if letB a then lets (M ++ R) + 1 else 0) = _
    rw [if_pos (hM a (by simp)), lets_app M R (fun c hc => hM c (by simp [hc])) h]
    rfl
theorem lets_take : ∀ L : List UInt8, (∀ c ∈ L.take (lets L), letB c = true) ∧ lets L ≤ L.length
  | [] => ⟨fun c hc => (by cases hc), Nat.le_refl _⟩
  | a :: L => by
    unfold lets
    by_cases h : letB a = true
    · rw [if_pos h]
      obtain ⟨h1, h2⟩ := lets_take L
      refine ⟨fun c hc => ?_, by simp; omega⟩
      rw [List.take_succ_cons] at hc
      rcases List.mem_cons.1 hc with rfl | hc
      · exact h
      · exact h1 c hc
    · rw [if_neg h]
      exact ⟨fun c hc => by simp at hc, Nat.zero_le _⟩

/-- Digits alone. -/
def Dgs (A : List UInt8) : Prop := ∀ c ∈ A, isDg c
inductive Mt : List UInt8 → Prop
  | whole (A : List UInt8) (h : A ≠ []) (hA : Dgs A) : Mt A
  | dot (A B : List UInt8) (h : A ≠ [] ∨ B ≠ []) (hA : Dgs A) (hB : Dgs B) : Mt (A ++ 46 :: B)
theorem dgt_iff (c : UInt8) : dgt c = true ↔ isDg c := by unfold dgt isDg; simp
/-- No digit ahead. -/
def NoD : List UInt8 → Prop
  | [] => True
  | c :: _ => ¬ isDg c
theorem dcnt_app : ∀ (A R : List UInt8), Dgs A → NoD R → dcnt (A ++ R) = A.length
  | [], [], _, _ => rfl
  | [], c :: R, _, h => by
    show (if dgt c then dcnt R + 1 else 0) = 0
    rw [if_neg (fun e => h ((dgt_iff c).1 e))]
  | a :: A, R, hA, h => by
    show (if dgt a then dcnt (A ++ R) + 1 else 0) = _
    rw [if_pos ((dgt_iff a).2 (hA a (by simp))), dcnt_app A R (fun c hc => hA c (by simp [hc])) h]
    rfl
theorem dcnt_split : ∀ L : List UInt8, ∃ A R, L = A ++ R ∧ Dgs A ∧ NoD R ∧ dcnt L = A.length
  | [] => ⟨[], [], rfl, fun c hc => (by cases hc), trivial, rfl⟩
  | a :: L => by
    by_cases h : isDg a
    · obtain ⟨A, R, e, h1, h2, h3⟩ := dcnt_split L
      refine ⟨a :: A, R, by rw [e]; rfl, fun c hc => ?_, h2, ?_⟩
      · rcases List.mem_cons.1 hc with rfl | hc
        · exact h
        · exact h1 c hc
      · show (if dgt a then dcnt L + 1 else 0) = _
        rw [if_pos ((dgt_iff a).2 h), h3]
        rfl
    · refine ⟨[], a :: L, rfl, fun c hc => (by cases hc), h, ?_⟩
      show (if dgt a then dcnt L + 1 else 0) = _
      rw [if_neg (fun e => h ((dgt_iff a).1 e))]
      rfl
theorem stop_nod {R : List UInt8} (h : Stop R) : NoD R := by
  cases R with
  | nil => trivial
  | cons c R =>
    have := stop_num h
    intro hd
    unfold isDg at hd
    omega
/-- The head is none of these. -/
theorem mant_whole {A R : List UInt8} (hA : Dgs A) (hR : NoD R) (h46 : ∀ c Q, R = c :: Q → c.toNat ≠ 46) : mant (A ++ R) = A.length := by
  unfold mant
  rw [dcnt_app A R hA hR, List.drop_left]
  cases R with
  | nil => rfl
  | cons c Q =>
    dsimp only
    rw [if_neg (h46 c Q rfl)]
theorem mant_dot {A B R : List UInt8} (hA : Dgs A) (hB : Dgs B) (hR : NoD R) (h : A ≠ [] ∨ B ≠ []) : mant (A ++ 46 :: (B ++ R)) = A.length + (1 + B.length) := by
  unfold mant
  rw [dcnt_app A (46 :: (B ++ R)) hA (by show ¬ isDg 46; unfold isDg; decide), List.drop_left]
  dsimp only
  rw [if_pos (by rfl), dcnt_app B R hB hR, if_neg]
  intro e
  rcases h with h | h
  · exact h (List.length_eq_zero_iff.1 (by omega))
  · exact h (List.length_eq_zero_iff.1 (by omega))
theorem tailE_at {M R : List UInt8} {n : Nat} (hn : n = M.length) : tailE (M ++ R) n = match R with
  | [] => n
  | c :: R => if c.toNat = 101 ∨ c.toNat = 69 then (if 0 < dcnt (R.drop (sgnL R)) then n + 1 + sgnL R + dcnt (R.drop (sgnL R)) else n) else n := by
  subst hn
  unfold tailE
  rw [List.drop_left]
  cases R <;> rfl
theorem exp_tail {M E R : List UInt8} {x : Int} (hE : ExpIs E x) (hR : Stop R) : tailE (M ++ (E ++ R)) M.length = M.length + E.length := by
  rw [tailE_at rfl]
  have hdg : ∀ D : List UInt8, D ≠ [] → (∀ c ∈ D, isDg c) → dcnt (D ++ R) = D.length ∧ 0 < D.length := fun D h1 h2 => ⟨dcnt_app D R h2 (stop_nod hR), by cases D with | nil => exact absurd rfl h1 | cons a b => simp⟩
  cases hE with
  | none =>
    cases R with
    | nil => rfl
    | cons c R =>
      have := stop_num hR
      dsimp only [List.nil_append]
      rw [if_neg (by omega)]
      rfl
  | plain ec D h hD hd =>
    obtain ⟨h1, h2⟩ := hdg D hD hd
    show (if ec.toNat = 101 ∨ ec.toNat = 69 then (if 0 < dcnt ((D ++ R).drop (sgnL (D ++ R))) then M.length + 1 + sgnL (D ++ R) + dcnt ((D ++ R).drop (sgnL (D ++ R))) else M.length) else M.length) = _
    rw [if_pos h.symm]
    have hs : sgnL (D ++ R) = 0 := by
      cases D with
      | nil => exact absurd rfl hD
      | cons a D =>
        have := hd a (by simp)
        show (if a.toNat = 43 ∨ a.toNat = 45 then 1 else 0) = 0
        unfold isDg at this
        rw [if_neg (by omega)]
    rw [hs, List.drop_zero, h1, if_pos h2]
    simp
    omega
  | plus ec D h hD hd =>
    obtain ⟨h1, h2⟩ := hdg D hD hd
    show (if ec.toNat = 101 ∨ ec.toNat = 69 then (if 0 < dcnt ((43 :: (D ++ R)).drop (sgnL (43 :: (D ++ R)))) then M.length + 1 + sgnL (43 :: (D ++ R)) + dcnt ((43 :: (D ++ R)).drop (sgnL (43 :: (D ++ R)))) else M.length) else M.length) = _
    rw [if_pos h.symm]
    have hs : sgnL (43 :: (D ++ R)) = 1 := rfl
    rw [hs, List.drop_succ_cons, List.drop_zero, h1, if_pos h2]
    simp
    omega
  | minus ec D h hD hd =>
    obtain ⟨h1, h2⟩ := hdg D hD hd
    show (if ec.toNat = 101 ∨ ec.toNat = 69 then (if 0 < dcnt ((45 :: (D ++ R)).drop (sgnL (45 :: (D ++ R)))) then M.length + 1 + sgnL (45 :: (D ++ R)) + dcnt ((45 :: (D ++ R)).drop (sgnL (45 :: (D ++ R)))) else M.length) else M.length) = _
    rw [if_pos h.symm]
    have hs : sgnL (45 :: (D ++ R)) = 1 := rfl
    rw [hs, List.drop_succ_cons, List.drop_zero, h1, if_pos h2]
    simp
    omega
theorem exp_nod {E R : List UInt8} {x : Int} (hE : ExpIs E x) (hR : Stop R) : NoD (E ++ R) ∧ ∀ c Q, E ++ R = c :: Q → c.toNat ≠ 46 := by
  have hec : ∀ (ec : UInt8) (Q : List UInt8), ec.toNat = 69 ∨ ec.toNat = 101 → NoD (ec :: Q) ∧ ∀ c Q', ec :: Q = c :: Q' → c.toNat ≠ 46 := by
    intro ec Q h
    refine ⟨?_, ?_⟩
    · show ¬ isDg ec
      unfold isDg
      omega
    · intro c Q' e
      injection e with e _
      subst e
      omega
  cases hE with
  | none =>
    refine ⟨stop_nod hR, ?_⟩
    intro c Q e
    rw [List.nil_append] at e
    rw [e] at hR
    have := stop_num hR
    omega
  | plain ec D h hD hd => exact hec ec _ h
  | plus ec D h hD hd => exact hec ec _ h
  | minus ec D h hD hd => exact hec ec _ h
theorem Mt.ne {M : List UInt8} (h : Mt M) : M.length ≠ 0 := by
  cases h with
  | whole _ h _ => exact fun e => h (List.length_eq_zero_iff.1 e)
  | dot A B h _ _ => simp
theorem mant_mt {M E R : List UInt8} {x : Int} (hM : Mt M) (hE : ExpIs E x) (hR : Stop R) : mant (M ++ (E ++ R)) = M.length := by
  obtain ⟨h1, h2⟩ := exp_nod hE hR
  cases hM with
  | whole _ h hA => exact mant_whole hA h1 h2
  | dot A B h hA hB =>
    have := mant_dot (A := A) (B := B) (R := E ++ R) hA hB h1 h
    rw [List.append_assoc, List.cons_append, this]
    simp
    omega
theorem decN_mt {M E R : List UInt8} {x : Int} (hM : Mt M) (hE : ExpIs E x) (hR : Stop R) : decN (M ++ (E ++ R)) = M.length + E.length := by
  unfold decN
  rw [mant_mt hM hE hR, if_neg hM.ne, exp_tail hE hR]

/-- A decimal at the beginning, with a stop behind it, has the form of one. -/
theorem decN_split (L : List UInt8) (h0 : decN L ≠ 0) : ∃ M E x, L = M ++ (E ++ L.drop (decN L)) ∧ Mt M ∧ ExpIs E x ∧ decN L = M.length + E.length := by
  obtain ⟨A, R, rfl, hA, hR, h1⟩ := dcnt_split L
  have hm0 : mant (A ++ R) ≠ 0 := fun e => h0 (by unfold decN; rw [if_pos e])
  obtain ⟨M, Q, e, hM, hm⟩ : ∃ M Q, A ++ R = M ++ Q ∧ Mt M ∧ mant (A ++ R) = M.length := by
    have hdef : ∀ R', R = R' → mant (A ++ R) = match R' with
      | [] => A.length
      | c :: R => if c.toNat = 46 then (if A.length + dcnt R = 0 then 0 else A.length + (1 + dcnt R)) else A.length := by
      intro R' e
      subst e
      unfold mant
      rw [h1, List.drop_left]
      cases R <;> rfl
    replace hdef := hdef R rfl
    have hw : mant (A ++ R) = A.length → ∃ M Q, A ++ R = M ++ Q ∧ Mt M ∧ mant (A ++ R) = M.length := fun e => ⟨A, R, rfl, .whole A (fun e' => hm0 (by rw [e, e']; rfl)) hA, e⟩
    cases R with
    | nil => exact hw hdef
    | cons c R =>
      dsimp only at hdef
      by_cases hc : c.toNat = 46
      · rw [if_pos hc] at hdef
        by_cases hz : A.length + dcnt R = 0
        · rw [if_pos hz] at hdef
          exact absurd hdef hm0
        · rw [if_neg hz] at hdef
          obtain ⟨B, R', rfl, hB, hR', h2⟩ := dcnt_split R
          obtain rfl : c = 46 := UInt8.toNat_inj.1 hc
          refine ⟨A ++ 46 :: B, R', by simp, .dot A B ?_ hA hB, by rw [hdef, h2]; simp; omega⟩
          rcases A with _ | ⟨a, A⟩
          · right
            rintro rfl
            exact hz (by rw [h2]; rfl)
          · left
            simp
      · rw [if_neg hc] at hdef
        exact hw hdef
  rw [e] at h0 hm ⊢
  have hdec : decN (M ++ Q) = tailE (M ++ Q) M.length := by
    unfold decN
    rw [hm, if_neg hM.ne]
  rw [hdec, tailE_at rfl]
  have hno : ∃ M' E x, M ++ Q = M' ++ (E ++ (M ++ Q).drop M.length) ∧ Mt M' ∧ ExpIs E x ∧ M.length = M'.length + E.length := ⟨M, [], 0, by rw [List.drop_left]; rfl, hM, .none, rfl⟩
  cases Q with
  | nil => exact hno
  | cons ec Q =>
    dsimp only
    by_cases he : ec.toNat = 101 ∨ ec.toNat = 69
    · rw [if_pos he]
      by_cases hd : 0 < dcnt (Q.drop (sgnL Q))
      · rw [if_pos hd]
        obtain ⟨D, R', h2, hD, hR', h3⟩ := dcnt_split (Q.drop (sgnL Q))
        rw [h3] at hd ⊢
        have hDne : D ≠ [] := fun e => by rw [e] at hd; exact absurd hd (Nat.lt_irrefl 0)
        have hsg : sgnL Q = 0 ∨ (sgnL Q = 1 ∧ ∃ Q', Q = 43 :: Q' ∨ Q = 45 :: Q') := by
          cases Q with
          | nil => exact .inl rfl
          | cons s Q =>
            show (if s.toNat = 43 ∨ s.toNat = 45 then 1 else 0) = 0 ∨ ((if s.toNat = 43 ∨ s.toNat = 45 then 1 else 0) = 1 ∧ _)
            by_cases hs : s.toNat = 43 ∨ s.toNat = 45
            · right
              rw [if_pos hs]
              refine ⟨rfl, Q, ?_⟩
              rcases hs with hs | hs
              · left; rw [show s = 43 from UInt8.toNat_inj.1 hs]
              · right; rw [show s = 45 from UInt8.toNat_inj.1 hs]
            · left
              rw [if_neg hs]
        rcases hsg with hs | ⟨hs, Q', rfl | rfl⟩
        · rw [hs, List.drop_zero] at h2
          subst h2
          rw [hs]
          refine ⟨M, ec :: D, _, ?_, hM, .plain ec D he.symm hDne hD, by simp; omega⟩
          have e3 : M ++ ec :: (D ++ R') = (M ++ ec :: D) ++ R' := by simp
          rw [e3, show M.length + 1 + 0 + D.length = (M ++ ec :: D).length from by simp; omega, List.drop_left]
          simp
        · rw [hs] at h2
          simp only [List.drop_succ_cons, List.drop_zero] at h2
          subst h2
          rw [hs]
          refine ⟨M, ec :: 43 :: D, _, ?_, hM, .plus ec D he.symm hDne hD, by simp; omega⟩
          have e3 : M ++ ec :: 43 :: (D ++ R') = (M ++ ec :: 43 :: D) ++ R' := by simp
          rw [e3, show M.length + 1 + 1 + D.length = (M ++ ec :: 43 :: D).length from by simp; omega, List.drop_left]
          simp
        · rw [hs] at h2
          simp only [List.drop_succ_cons, List.drop_zero] at h2
          subst h2
          rw [hs]
          refine ⟨M, ec :: 45 :: D, _, ?_, hM, .minus ec D he.symm hDne hD, by simp; omega⟩
          have e3 : M ++ ec :: 45 :: (D ++ R') = (M ++ ec :: 45 :: D) ++ R' := by simp
          rw [e3, show M.length + 1 + 1 + D.length = (M ++ ec :: 45 :: D).length from by simp; omega, List.drop_left]
          simp
      · rw [if_neg hd]
        exact hno
    · rw [if_neg he]
      exact hno

/-- No 0 ahead of another digit at the beginning. -/
def NPad (L : List UInt8) : Prop := ∀ c d Q, L = c :: d :: Q → c.toNat = 48 → ¬ isDg d
/-- Of each token's kind, the text's bytes, and of a number: it is not padded. -/
def NPadT (t : Nat × ByteArray) : Prop := t.1 = 49 → NPad t.2.data.toList
/-- A token: a sign, a word of letters, or a decimal. -/
inductive TW : Nat × ByteArray → Prop
  | sg (c : UInt8) (h : sgB c = true) : TW (c.toNat, ⟨#[c]⟩)
  | word (c : UInt8) (M : List UInt8) (h : ∀ x ∈ c :: M, letB x = true) : TW (97, ⟨(c :: M).toArray⟩)
  | num (M E : List UInt8) (x : Int) (hM : Mt M) (hE : ExpIs E x) : TW (49, ⟨(M ++ E).toArray⟩)
theorem letB_num {c : UInt8} (h : letB c = true) : 97 ≤ c.toNat ∧ c.toNat ≤ 122 ∨ 65 ≤ c.toNat ∧ c.toNat ≤ 90 := by unfold letB at h; simp at h; exact h
theorem Mt.head {M : List UInt8} (h : Mt M) : ∃ c Q, M = c :: Q ∧ (isDg c ∨ c.toNat = 46) := by
  cases h with
  | whole _ h hA =>
    cases M with
    | nil => exact absurd rfl h
    | cons c Q => exact ⟨c, Q, rfl, .inl (hA c (by simp))⟩
  | dot A B h hA hB =>
    cases A with
    | nil => exact ⟨46, B, rfl, .inr rfl⟩
    | cons c Q => exact ⟨c, Q ++ 46 :: B, rfl, .inl (hA c (by simp))⟩
theorem dg_nlet {c : UInt8} (h : isDg c ∨ c.toNat = 46) : letB c = false ∧ blk c = false ∧ sgB c = false := by
  unfold isDg at h
  unfold letB blk sgB
  refine ⟨?_, ?_, ?_⟩ <;> simp <;> omega
theorem let_nb {c : UInt8} (h : letB c = true) : blk c = false ∧ sgB c = false := by
  have := letB_num h
  unfold blk sgB
  refine ⟨?_, ?_⟩ <;> simp <;> omega
theorem kdB_let {c : UInt8} (h : letB c = true) : kdB c = 97 := if_pos h
theorem kdB_num {c : UInt8} (h : letB c = false) : kdB c = 49 := if_neg (by rw [h]; decide)

/-- Every token of a text has its form; and its first byte. -/
theorem wd_shape (c : UInt8) (R : List UInt8) (hw : wl (c :: R) ≠ 0) : TW (kdB c, ⟨((c :: R).take (wl (c :: R))).toArray⟩) := by
  by_cases h : letB c = true
  · have e : wl (c :: R) = lets (c :: R) := if_pos h
    have e2 : lets (c :: R) = lets R + 1 := if_pos h
    rw [kdB_let h, e, e2, List.take_succ_cons]
    refine .word c _ ?_
    have := (lets_take (c :: R)).1
    rw [e2, List.take_succ_cons] at this
    exact this
  · have h' : letB c = false := by simpa using h
    have e : wl (c :: R) = decN (c :: R) := if_neg h
    rw [e] at hw ⊢
    rw [kdB_num h']
    obtain ⟨M, E, x, h1, h2, h3, h4⟩ := decN_split _ hw
    have e5 : (c :: R).take (decN (c :: R)) = M ++ E := by
      generalize (c :: R).drop (decN (c :: R)) = Q at h1
      rw [h4, h1, ← List.length_append, ← List.append_assoc, List.take_left]
    rw [e5]
    exact .num M E x h2 h3
theorem RT.tw {j : Bool} {L : List UInt8} {ts : List (Nat × ByteArray)} (h : RT j L ts) : ∀ t ∈ ts, TW t := by
  induction h with
  | nil => intro t ht; cases ht
  | blk _ _ _ _ _ _ ih => exact ih
  | sg j c R ts h0 h hj hr ih =>
    intro t ht
    rcases List.mem_cons.1 ht with rfl | ht
    · exact .sg c h
    · exact ih t ht
  | wd c R ts h0 h hw hr ih =>
    intro t ht
    rcases List.mem_cons.1 ht with rfl | ht
    · exact wd_shape c R hw
    · exact ih t ht
theorem RT.sz {j : Bool} {L : List UInt8} {ts : List (Nat × ByteArray)} (h : RT j L ts) : (∀ t ∈ ts, t.2.size ≤ L.length) ∧ ts.length ≤ L.length := by
  induction h with
  | nil => exact ⟨fun t ht => (by cases ht), Nat.le_refl _⟩
  | blk _ c R _ _ _ ih => exact ⟨fun t ht => Nat.le_trans (ih.1 t ht) (by simp), Nat.le_trans ih.2 (by simp)⟩
  | sg j c R ts h0 h hj hr ih =>
    refine ⟨fun t ht => ?_, by simp; exact ih.2⟩
    rcases List.mem_cons.1 ht with rfl | ht
    · show 1 ≤ (c :: R).length
      simp
    · exact Nat.le_trans (ih.1 t ht) (by simp)
  | wd c R ts h0 h hw hr ih =>
    refine ⟨fun t ht => ?_, ?_⟩
    · rcases List.mem_cons.1 ht with rfl | ht
      · show ((c :: R).take (wl (c :: R))).toArray.size ≤ _
        simp only [List.size_toArray, List.length_take]
        exact Nat.min_le_right _ _
      · refine Nat.le_trans (ih.1 t ht) ?_
        rw [List.length_drop]
        exact Nat.sub_le _ _
    · have := ih.2
      rw [List.length_drop] at this
      have h2 : 0 < (c :: R).length := by simp
      simp only [List.length_cons] at this ⊢
      omega
/-- A token and a blank behind it. -/
theorem TW.rt {t : Nat × ByteArray} (h : TW t) (R : List UInt8) (hR : Stop R) {ts : List (Nat × ByteArray)} (hr : RT true R ts) (hr0 : RT false R ts) : RT false (t.2.data.toList ++ R) (t :: ts) := by
  cases h with
  | sg c h =>
    refine .sg false c R ts ?_ h (by rintro ⟨-, h⟩; cases h) hr0
    unfold sgB at h
    unfold Go.Proofs.YthfjakbpeclfcaaGreatDoor.blk
    simp at h ⊢
    omega
  | word c M h =>
    have hc := h c (by simp)
    have hw : wl (c :: (M ++ R)) = M.length + 1 := by
      show (if letB c then lets (c :: (M ++ R)) else _) = _
      rw [if_pos hc]
      exact lets_app (c :: M) R h hR
    have hd : (c :: (M ++ R)).drop (M.length + 1) = R := by simp
    have ht : (c :: (M ++ R)).take (M.length + 1) = c :: M := by simp
    have := RT.wd c (M ++ R) ts (let_nb hc).1 (let_nb hc).2 (by rw [hw]; omega) (by rw [hw, hd]; exact hr)
    rw [hw, ht, kdB_let hc] at this
    exact this
  | num M E x hM hE =>
    obtain ⟨c, Q, rfl, hc⟩ := hM.head
    obtain ⟨n1, n2, n3⟩ := dg_nlet hc
    have hdn := decN_mt hM hE hR
    have hw : wl (c :: (Q ++ (E ++ R))) = (c :: Q).length + E.length := by
      show (if letB c then _ else decN (c :: (Q ++ (E ++ R)))) = _
      rw [if_neg (by rw [n1]; decide)]
      exact hdn
    have e1 : c :: (Q ++ (E ++ R)) = (c :: Q ++ E) ++ R := by simp
    have hd : (c :: (Q ++ (E ++ R))).drop ((c :: Q).length + E.length) = R := by rw [e1, ← List.length_append, List.drop_left]
    have ht : (c :: (Q ++ (E ++ R))).take ((c :: Q).length + E.length) = c :: Q ++ E := by rw [e1, ← List.length_append, List.take_left]
    have := RT.wd c (Q ++ (E ++ R)) ts n2 n3 (by rw [hw]; simp) (by rw [hw, hd]; exact hr)
    rw [hw, ht, kdB_num n1] at this
    have e2 : (⟨(c :: Q ++ E).toArray⟩ : ByteArray).data.toList ++ R = c :: (Q ++ (E ++ R)) := by simp
    rw [e2]
    exact this
def joinT (p : List (Nat × ByteArray)) : List UInt8 := p.flatMap fun t => t.2.data.toList ++ [32]
theorem RT.b32 {j : Bool} {R : List UInt8} {ts : List (Nat × ByteArray)} (h : RT false R ts) : RT j (32 :: R) ts := .blk j 32 R ts rfl h
theorem joinT_rt : ∀ (p : List (Nat × ByteArray)), (∀ t ∈ p, TW t) → RT false (joinT p) p
  | [], _ => .nil false
  | t :: p, h => by
    have ih := joinT_rt p (fun u hu => h u (by simp [hu]))
    have e : joinT (t :: p) = t.2.data.toList ++ 32 :: joinT p := by simp [joinT]
    rw [e]
    exact (h t (by simp)).rt _ (show Stop (32 :: joinT p) from Or.inl rfl) ih.b32 ih.b32
end Go.Proofs.YthfjakbpeclfcaaGreatDoor

namespace Go.Proofs.YthfjakbpeclfcaaGreatDoor
open Go.RowKit Go

def hd : List UInt8 → Int
  | [] => -1
  | c :: _ => (c.toNat : Int)
theorem nxt_hd (T : ByteArray) (i : Nat) : nxt T i = hd (T.data.toList.drop i) := by
  unfold nxt tx
  by_cases h : i < T.size
  · rw [if_pos h]
    have h' : i < T.data.toList.length := by rw [slen]; exact h
    rw [List.drop_eq_getElem_cons h']
    rw [List.getD, List.getElem?_eq_getElem h']
    rfl
  · rw [if_neg h, drop_end (by omega)]
    rfl
theorem nxt_app {T : ByteArray} {i : Nat} {M R : List UInt8} (h : T.data.toList.drop i = M ++ R) {n : Nat} (hn : n = i + M.length) : nxt T n = hd R ∧ T.data.toList.drop n = R := by
  subst hn
  have : T.data.toList.drop (i + M.length) = R := by rw [← List.drop_drop, h, List.drop_left]
  exact ⟨by rw [nxt_hd, this], this⟩
theorem isDec_hd {R : List UInt8} (h : NoD R) : isDec (hd R) = false := by
  unfold isDec
  cases R with
  | nil => decide
  | cons c R =>
    have h' : ¬ isDg c := h
    unfold isDg at h'
    show (decide (48 ≤ (c.toNat : Int)) && decide ((c.toNat : Int) ≤ 57)) = false
    rw [← Bool.decide_and, decide_eq_false_iff_not]
    omega
theorem isDec_dg {c : UInt8} (h : isDg c) : isDec (c.toNat : Int) = true := by
  unfold isDg at h
  unfold isDec
  simp
  omega
theorem nd_at {T : ByteArray} {i : Nat} {A R : List UInt8} (h : T.data.toList.drop i = A ++ R) (hA : Dgs A) (hR : NoD R) {k : Nat} (hk : k = A.length) : ND T i k := by
  subst hk
  refine ⟨fun j hj => ?_, by rw [(nxt_app h rfl).1]; exact isDec_hd hR⟩
  have e : T.data.toList.drop i = A.take j ++ (A[j] :: (A.drop (j + 1) ++ R)) := by
    have e := List.take_append_drop j A
    rw [List.drop_eq_getElem_cons hj] at e
    rw [h]
    conv => lhs; rw [← e]
    simp only [List.append_assoc, List.cons_append]
  have := (nxt_app e (n := i + j) (by rw [List.length_take]; omega)).1
  rw [this]
  exact isDec_dg (hA _ (List.getElem_mem hj))
theorem low_stop {R : List UInt8} (h : Stop R) : lowr (hd R) ≠ 101 ∧ lowr (hd R) ≠ 112 ∧ hd R ≠ 46 ∧ lowr (hd R) ≠ 120 ∧ lowr (hd R) ≠ 111 ∧ lowr (hd R) ≠ 98 := by
  cases R with
  | nil => decide
  | cons c R =>
    have := stop_num h
    show lowr (c.toNat : Int) ≠ 101 ∧ lowr (c.toNat : Int) ≠ 112 ∧ (c.toNat : Int) ≠ 46 ∧ lowr (c.toNat : Int) ≠ 120 ∧ lowr (c.toNat : Int) ≠ 111 ∧ lowr (c.toNat : Int) ≠ 98
    rcases this with h | h | h | h | h | h | h <;> rw [h] <;> decide
theorem low_ex {ec : UInt8} (h : ec.toNat = 69 ∨ ec.toNat = 101) : lowr (ec.toNat : Int) = 101 := by
  rcases h with h | h <;> rw [h] <;> decide
theorem dgs_head {D R : List UInt8} (hne : D ≠ []) (hD : Dgs D) : ∃ n : Nat, hd (D ++ R) = n ∧ 48 ≤ n ∧ n ≤ 57 := by
  cases D with
  | nil => exact absurd rfl hne
  | cons a D =>
    have := hD a (by simp)
    unfold isDg at this
    exact ⟨a.toNat, rfl, this.1, this.2⟩
theorem len_pos {D : List UInt8} (hne : D ≠ []) : 1 ≤ D.length := by
  cases D with
  | nil => exact absurd rfl hne
  | cons a D => simp
theorem ex_at {T : ByteArray} {m : Nat} {E R : List UInt8} {x : Int} (hE : ExpIs E x) (hR : Stop R) (h : T.data.toList.drop m = E ++ R) {n : Nat} (hn : n = m + E.length) : Ex T m n := by
  subst hn
  have h0 := (nxt_app (M := []) (R := E ++ R) h (n := m) rfl).1
  cases hE with
  | none =>
    refine .no m ?_ ?_
    · rw [h0]; exact (low_stop hR).1
    · rw [h0]; exact (low_stop hR).2.1
  | plain ec D hc hD hd' =>
    obtain ⟨h1, h2⟩ := nxt_app (M := [ec]) (R := D ++ R) h (n := m + 1) rfl
    obtain ⟨n, h3, h4, h5⟩ := dgs_head (R := R) hD hd'
    have := Ex.plain (T := T) m D.length (by rw [h0]; exact low_ex hc) (by rw [h1, h3]; omega) (by rw [h1, h3]; omega) (len_pos hD) (nd_at h2 hd' (stop_nod hR) rfl)
    rw [show m + (ec :: D).length = m + 1 + D.length from by simp; omega]
    exact this
  | plus ec D hc hD hd' =>
    have h1 := (nxt_app (M := [ec]) (R := 43 :: D ++ R) h (n := m + 1) rfl).1
    have h2 := (nxt_app (M := [ec, 43]) (R := D ++ R) h (n := m + 1 + 1) rfl).2
    have := Ex.sign (T := T) m D.length (by rw [h0]; exact low_ex hc) (by rw [h1]; left; rfl) (len_pos hD) (nd_at h2 hd' (stop_nod hR) rfl)
    rw [show m + (ec :: 43 :: D).length = m + 1 + 1 + D.length from by simp; omega]
    exact this
  | minus ec D hc hD hd' =>
    have h1 := (nxt_app (M := [ec]) (R := 45 :: D ++ R) h (n := m + 1) rfl).1
    have h2 := (nxt_app (M := [ec, 45]) (R := D ++ R) h (n := m + 1 + 1) rfl).2
    have := Ex.sign (T := T) m D.length (by rw [h0]; exact low_ex hc) (by rw [h1]; right; rfl) (len_pos hD) (nd_at h2 hd' (stop_nod hR) rfl)
    rw [show m + (ec :: 45 :: D).length = m + 1 + 1 + D.length from by simp; omega]
    exact this
theorem exp_head {E R : List UInt8} {x : Int} (hE : ExpIs E x) (hR : Stop R) : hd (E ++ R) ≠ 46 ∧ lowr (hd (E ++ R)) ≠ 120 ∧ lowr (hd (E ++ R)) ≠ 111 ∧ lowr (hd (E ++ R)) ≠ 98 := by
  have hec : ∀ (ec : UInt8) (Q : List UInt8), ec.toNat = 69 ∨ ec.toNat = 101 → hd (ec :: Q) ≠ 46 ∧ lowr (hd (ec :: Q)) ≠ 120 ∧ lowr (hd (ec :: Q)) ≠ 111 ∧ lowr (hd (ec :: Q)) ≠ 98 := by
    intro ec Q h
    show (ec.toNat : Int) ≠ 46 ∧ lowr (ec.toNat : Int) ≠ 120 ∧ lowr (ec.toNat : Int) ≠ 111 ∧ lowr (ec.toNat : Int) ≠ 98
    rcases h with h | h <;> rw [h] <;> decide
  cases hE with
  | none => exact ⟨(low_stop hR).2.2.1, (low_stop hR).2.2.2.1, (low_stop hR).2.2.2.2.1, (low_stop hR).2.2.2.2.2⟩
  | plain ec D h _ _ => exact hec ec _ h
  | plus ec D h _ _ => exact hec ec _ h
  | minus ec D h _ _ => exact hec ec _ h

theorem npad_zero {A Q : List UInt8} (hA : Dgs A) (h : NPad (A ++ Q)) (h0 : A ≠ []) : (A = [48]) ∨ ∃ c A', A = c :: A' ∧ c.toNat ≠ 48 := by
  cases A with
  | nil => exact absurd rfl h0
  | cons c A =>
    by_cases hc : c.toNat = 48
    · left
      cases A with
      | nil => rw [show c = 48 from UInt8.toNat_inj.1 hc]
      | cons d A => exact absurd (hA d (by simp)) (h c d (A ++ Q) rfl hc)
    · exact .inr ⟨c, A, rfl, hc⟩
set_option maxHeartbeats 1000000 in
theorem tok_num {T : ByteArray} {i : Nat} {M E R : List UInt8} {x : Int} (hM : Mt M) (hE : ExpIs E x) (hR : Stop R) (h : T.data.toList.drop i = M ++ (E ++ R)) (hp : NPad (M ++ E)) {n : Nat} (hn : n = i + (M.length + E.length)) : TokAt T i n .num := by
  subst hn
  have hex : Ex T (i + M.length) (i + (M.length + E.length)) := ex_at hE hR (nxt_app h rfl).2 (by omega)
  obtain ⟨n1, n2⟩ := exp_nod hE hR
  obtain ⟨x0, x1, x2, x3⟩ := exp_head hE hR
  generalize hen : i + (M.length + E.length) = n at *
  clear hen
  generalize hm : i + M.length = m at hex
  have hmid : nxt T m = hd (E ++ R) ∧ T.data.toList.drop m = E ++ R := nxt_app h hm.symm
  cases hM with
  | whole _ h0 hA =>
    have hnd : ND T i M.length := nd_at h hA n1 rfl
    rcases npad_zero hA hp h0 with rfl | ⟨c, A', rfl, hc⟩
    · have h48 : nxt T i = 48 := (nxt_app (M := []) (R := 48 :: (E ++ R)) h (n := i) rfl).1
      have hm1 : m = i + 1 := hm.symm
      have hnd2 : ND T (i + 1) 0 := by rw [← hm1]; exact nd_at (A := []) hmid.2 (fun c hc => by cases hc) n1 rfl
      rw [hm1] at hmid hex
      have q1 : nxt T (i + 1) ≠ 46 := by rw [hmid.1]; exact x0
      have q2 : lowr (nxt T (i + 1)) ≠ 120 := by rw [hmid.1]; exact x1
      have q3 : lowr (nxt T (i + 1)) ≠ 111 := by rw [hmid.1]; exact x2
      have q4 : lowr (nxt T (i + 1)) ≠ 98 := by rw [hmid.1]; exact x3
      refine .num i n (by rw [h48]; decide) ?_
      intro B P RD f w tk hfT ha hW
      subst hfT
      cases hex with
      | no y1 y2 => exact sn_H2_no B P RD f w tk i ha hW h48 hnd2 q2 q3 q4 q1 y1 y2
      | plain k y1 y2 y3 hk hd => exact sn_H2_plain B P RD f w tk i ha hW h48 hnd2 q2 q3 q4 q1 y1 y2 y3 k hk hd
      | sign k y1 y2 hk hd => exact sn_H2_sign B P RD f w tk i ha hW h48 hnd2 q2 q3 q4 q1 y1 y2 k hk hd
    · have hi : nxt T i = c.toNat := (nxt_app (M := []) (R := c :: A' ++ (E ++ R)) h (n := i) rfl).1
      have h48 : nxt T i ≠ 48 := by rw [hi]; omega
      have hd1 : isDec (nxt T i) = true := by rw [hi]; exact isDec_dg (hA c (by simp))
      have q1 : nxt T m ≠ 46 := by rw [hmid.1]; exact x0
      subst hm
      refine .num i n hd1 ?_
      intro B P RD f w tk hfT ha hW
      subst hfT
      cases hex with
      | no y1 y2 => exact sn_H4_no B P RD f w tk i ha hW (c :: A').length (by simp) h48 hnd q1 y1 y2
      | plain k y1 y2 y3 hk hd => exact sn_H4_plain B P RD f w tk i ha hW (c :: A').length (by simp) h48 hnd q1 y1 y2 y3 k hk hd
      | sign k y1 y2 hk hd => exact sn_H4_sign B P RD f w tk i ha hW (c :: A').length (by simp) h48 hnd q1 y1 y2 k hk hd
  | dot A D h0 hA hD =>
    have h' : T.data.toList.drop i = A ++ (46 :: (D ++ (E ++ R))) := by rw [h]; simp
    obtain ⟨d1, d2⟩ := nxt_app h' (n := i + A.length) rfl
    have d3 : T.data.toList.drop (i + A.length + 1) = D ++ (E ++ R) := (nxt_app (M := [46]) d2 (n := i + A.length + 1) rfl).2
    have hnd : ND T i A.length := nd_at h' hA (by show ¬ isDg 46; unfold isDg; decide) rfl
    have hnd2 : ND T (i + A.length + 1) D.length := nd_at d3 hD n1 rfl
    have hdot : nxt T (i + A.length) = 46 := d1
    have hm1 : m = i + A.length + 1 + D.length := by rw [← hm]; simp; omega
    rcases List.eq_nil_or_concat A with rfl | ⟨A0, a0, hA0⟩
    · have hDne : D ≠ [] := by
        rcases h0 with h0 | h0
        · exact absurd rfl h0
        · exact h0
      simp only [List.length_nil, Nat.add_zero] at hm1 hdot hnd2 d3
      obtain ⟨k, e1, e2, e3⟩ := dgs_head (R := E ++ R) hDne hD
      have hi1 : isDec (nxt T (i + 1)) = true := by
        have e0 : nxt T (i + 1) = k := ((nxt_app (M := []) (R := D ++ (E ++ R)) d3 (n := i + 1) rfl).1).trans e1
        rw [e0]
        unfold isDec
        simp
        omega
      have hk1 := len_pos hDne
      rw [hm1] at hex
      refine .dot i n hdot hi1 ?_
      intro B P RD f w tk hfT ha hW
      subst hfT
      cases hex with
      | no y1 y2 => exact sn_H1_no B P RD f w tk (i + 1) ha hW D.length hk1 hnd2 y1 y2
      | plain k y1 y2 y3 hk hd => exact sn_H1_plain B P RD f w tk (i + 1) ha hW D.length hk1 hnd2 y1 y2 y3 k hk hd
      | sign k y1 y2 hk hd => exact sn_H1_sign B P RD f w tk (i + 1) ha hW D.length hk1 hnd2 y1 y2 k hk hd
    · have hAne : A ≠ [] := by rw [hA0]; simp
      have hp' : NPad (A ++ (46 :: D ++ E)) := by
        have e : A ++ (46 :: D ++ E) = A ++ 46 :: D ++ E := by simp
        rw [e]
        exact hp
      rcases npad_zero hA hp' hAne with rfl | ⟨c, A', rfl, hc⟩
      · have h48 : nxt T i = 48 := (nxt_app (M := []) (R := [48] ++ (46 :: (D ++ (E ++ R)))) h' (n := i) rfl).1
        have hnd0 : ND T (i + 1) 0 := nd_at (A := []) d2 (fun c hc => by cases hc) (by show ¬ isDg 46; unfold isDg; decide) rfl
        rw [hm1] at hex
        refine .num i n (by rw [h48]; decide) ?_
        intro B P RD f w tk hfT ha hW
        subst hfT
        cases hex with
        | no y1 y2 => exact sn_H3_no B P RD f w tk i ha hW D.length h48 hnd0 hdot hnd2 y1 y2
        | plain k y1 y2 y3 hk hd => exact sn_H3_plain B P RD f w tk i ha hW D.length h48 hnd0 hdot hnd2 y1 y2 y3 k hk hd
        | sign k y1 y2 hk hd => exact sn_H3_sign B P RD f w tk i ha hW D.length h48 hnd0 hdot hnd2 y1 y2 k hk hd
      · have hi : nxt T i = c.toNat := (nxt_app (M := []) (R := c :: A' ++ (46 :: (D ++ (E ++ R)))) h' (n := i) rfl).1
        have h48 : nxt T i ≠ 48 := by rw [hi]; omega
        have hd1 : isDec (nxt T i) = true := by rw [hi]; exact isDec_dg (hA c (by simp))
        rw [hm1] at hex
        refine .num i n hd1 ?_
        intro B P RD f w tk hfT ha hW
        subst hfT
        cases hex with
        | no y1 y2 => exact sn_H5_no B P RD f w tk i ha hW (c :: A').length D.length (by simp) h48 hnd hdot hnd2 y1 y2
        | plain k y1 y2 y3 hk hd => exact sn_H5_plain B P RD f w tk i ha hW (c :: A').length D.length (by simp) h48 hnd hdot hnd2 y1 y2 y3 k hk hd
        | sign k y1 y2 hk hd => exact sn_H5_sign B P RD f w tk i ha hW (c :: A').length D.length (by simp) h48 hnd hdot hnd2 y1 y2 k hk hd

theorem idn_let0 : ∀ n : Fin 128, isIdn (n.val : Int) 0 = ((n.val == 95) || letB (UInt8.ofNat n.val)) := by decide +kernel
theorem idn_let1 : ∀ n : Fin 128, isIdn (n.val : Int) 1 = ((n.val == 95) || letB (UInt8.ofNat n.val) || dgt (UInt8.ofNat n.val)) := by decide +kernel
theorem let_idn {c : UInt8} (h : letB c = true) : isIdn (c.toNat : Int) 0 = true ∧ isIdn (c.toNat : Int) 1 = true := by
  have hn := letB_num h
  have h0 := idn_let0 ⟨c.toNat, by omega⟩
  have h1 := idn_let1 ⟨c.toNat, by omega⟩
  simp only [UInt8.ofNat_toNat, h, Bool.or_true, Bool.true_or] at h0 h1
  exact ⟨h0, h1⟩
theorem stop_idn {R : List UInt8} (h : Stop R) : isIdn (hd R) 1 = false := by
  cases R with
  | nil => decide
  | cons c R =>
    have := stop_num h
    show isIdn (c.toNat : Int) 1 = false
    rcases this with h | h | h | h | h | h | h <;> rw [h] <;> decide
theorem tok_word {T : ByteArray} {i : Nat} {c : UInt8} {M R : List UInt8} (hM : ∀ x ∈ c :: M, letB x = true) (hR : Stop R) (h : T.data.toList.drop i = c :: M ++ R) {n : Nat} (hn : n = i + (M.length + 1)) : TokAt T i n .id := by
  obtain rfl : n = i + 1 + M.length := by omega
  have h0 : nxt T i = c.toNat := (nxt_app (M := []) (R := c :: M ++ R) h (n := i) rfl).1
  have h1 : T.data.toList.drop (i + 1) = M ++ R := (nxt_app (M := [c]) (R := M ++ R) h (n := i + 1) rfl).2
  refine .id i M.length (by rw [h0]; exact (let_idn (hM c (by simp))).1) ⟨fun j hj => ?_, ?_⟩
  · have e : T.data.toList.drop (i + 1) = M.take j ++ (M[j] :: (M.drop (j + 1) ++ R)) := by
      have e := List.take_append_drop j M
      rw [List.drop_eq_getElem_cons hj] at e
      rw [h1]
      conv => lhs; rw [← e]
      simp only [List.append_assoc, List.cons_append]
    rw [(nxt_app e (n := i + 1 + j) (by rw [List.length_take]; omega)).1]
    exact (let_idn (hM _ (by simp))).2
  · rw [(nxt_app h1 rfl).1]
    exact stop_idn hR

theorem sub_take {T : ByteArray} {i n : Nat} {M R : List UInt8} (h : T.data.toList.drop i = M ++ R) (hn : n = i + M.length) : sub T i n = ⟨M.toArray⟩ := by
  subst hn
  unfold sub
  rw [h, show i + M.length - i = M.length from by omega, List.take_left]
theorem Toks.back {T : ByteArray} {i m : Nat} {l : List ByteArray} (h : Toks T m l) (him : i ≤ m) (hw : ∀ k, i ≤ k → k < m → wsc (nxt T k)) : Toks T i l := by
  cases h with
  | nil _ m' hb' ht' hn' => exact .nil i m' ⟨by have := hb'.1; omega, fun k k1 k2 => by
      by_cases hk : k < m
      · exact hw k k1 hk
      · exact hb'.2.1 k (by omega) k2, hb'.2.2⟩ ht' hn'
  | cons _ m' n' kd l hb' ht' hn' hr' => exact .cons i m' n' kd l ⟨by have := hb'.1; omega, fun k k1 k2 => by
      by_cases hk : k < m
      · exact hw k k1 hk
      · exact hb'.2.1 k (by omega) k2, hb'.2.2⟩ ht' hn' hr'
theorem rt_toks {T : ByteArray} {j : Bool} {L : List UInt8} {ts : List (Nat × ByteArray)} (h : RT j L ts) : (∀ t ∈ ts, NPadT t) → ∀ i, T.data.toList.drop i = L →
    ∃ m, i ≤ m ∧ (∀ k, i ≤ k → k < m → wsc (nxt T k)) ∧ Toks T m (ts.map (·.2)) ∧ ¬ wsc (nxt T m) := by
  have ncs : ∀ {c : UInt8}, blk c = false → ¬ wsc (c.toNat : Int) := by
    intro c hb
    unfold blk at hb
    simp at hb
    unfold wsc
    omega
  induction h with
  | nil j =>
    intro _ i hi
    have h0 : nxt T i = -1 := by rw [nxt_hd, hi]; rfl
    have hw : ¬ wsc (nxt T i) := by rw [h0]; unfold wsc; decide
    exact ⟨i, Nat.le_refl _, fun k h1 h2 => by omega, .nil i i ⟨Nat.le_refl _, fun k h1 h2 => by omega, hw⟩ (.eof i h0) h0, hw⟩
  | blk j c R ts h hr ih =>
    intro hp i hi
    obtain ⟨h0, h1⟩ := nxt_app (M := [c]) (R := R) hi (n := i + 1) rfl
    have hc : nxt T i = c.toNat := (nxt_app (M := []) (R := c :: R) hi (n := i) rfl).1
    obtain ⟨m, a1, a2, a3, a4⟩ := ih hp (i + 1) h1
    refine ⟨m, by omega, fun k k1 k2 => ?_, a3, a4⟩
    by_cases hk : k = i
    · rw [hk, hc]
      unfold Go.Proofs.YthfjakbpeclfcaaGreatDoor.blk at h
      simp at h
      unfold wsc
      omega
    · exact a2 k (by omega) k2
  | sg j c R ts hb h hj hr ih =>
    intro hp i hi
    obtain ⟨h0, h1⟩ := nxt_app (M := [c]) (R := R) hi (n := i + 1) rfl
    have hc : nxt T i = c.toNat := (nxt_app (M := []) (R := c :: R) hi (n := i) rfl).1
    obtain ⟨m, a1, a2, a3, a4⟩ := ih (fun t ht => hp t (by simp [ht])) (i + 1) h1
    have hw : ¬ wsc (nxt T i) := by rw [hc]; exact ncs hb
    unfold sgB at h
    simp at h
    have htk : TokAt T i (i + 1) (.ch (nxt T i)) := .sign i (by rw [hc]; omega)
    have hs : sub T i (i + 1) = ⟨#[c]⟩ := sub_take (M := [c]) (R := R) hi rfl
    refine ⟨i, Nat.le_refl _, fun k h1 h2 => by omega, ?_, hw⟩
    have hbl : Blank T i i := ⟨Nat.le_refl _, fun k h1 h2 => by omega, hw⟩
    have := Toks.cons i i (i + 1) _ (ts.map (·.2)) hbl htk (by rw [hc]; omega) ?_
    · rw [hs] at this
      exact this
    · exact a3.back a1 a2
  | wd c R ts hb h hw hr ih =>
    intro hp i hi
    have hst := hr.stop
    have htw := wd_shape c R hw
    have hnp := hp _ (List.mem_cons_self)
    have hap : c :: R = (c :: R).take (wl (c :: R)) ++ (c :: R).drop (wl (c :: R)) := (List.take_append_drop _ _).symm
    generalize hM : (c :: R).take (wl (c :: R)) = M at *
    generalize hQ : (c :: R).drop (wl (c :: R)) = Q at *
    have hc : nxt T i = c.toNat := (nxt_app (M := []) (R := c :: R) hi (n := i) rfl).1
    have hws : ¬ wsc (nxt T i) := by rw [hc]; exact ncs hb
    rw [hap] at hi
    obtain ⟨h0, h1⟩ := nxt_app hi (n := i + M.length) rfl
    obtain ⟨m, a1, a2, a3, a4⟩ := ih (fun t ht => hp t (by simp [ht])) (i + M.length) h1
    have hs : sub T i (i + M.length) = ⟨M.toArray⟩ := sub_take hi rfl
    have hbl : Blank T i i := ⟨Nat.le_refl _, fun k h1 h2 => by omega, hws⟩
    obtain ⟨kd, htk⟩ : ∃ kd, TokAt T i (i + M.length) kd := by
      generalize hk : kdB c = kk at htw hnp
      cases htw with
      | sg c' hc' =>
        exfalso
        have : kdB c = 97 ∨ kdB c = 49 := by unfold kdB; split; exact .inl rfl; exact .inr rfl
        unfold sgB at hc'
        simp at hc'
        omega
      | word c' M' hM' => exact ⟨_, tok_word hM' hst hi (by simp)⟩
      | num M' E x hM' hE =>
        have hnp' : NPad (M' ++ E) := by simpa using hnp rfl
        exact ⟨_, tok_num hM' hE hst (by rw [hi]; simp) hnp' (by simp)⟩
    refine ⟨i, Nat.le_refl _, fun k h1 h2 => by omega, ?_, hws⟩
    have := Toks.cons i i (i + M.length) kd (ts.map (·.2)) hbl htk (by rw [hc]; omega) ?_
    · rw [hs] at this
      exact this
    · exact a3.back a1 a2
theorem toks_of {T : ByteArray} {ts : List (Nat × ByteArray)} (h : RT false T.data.toList ts) (hp : ∀ t ∈ ts, NPadT t) : Toks T 0 (ts.map (·.2)) := by
  obtain ⟨m, -, a2, a3, a4⟩ := rt_toks (T := T) h hp 0 rfl
  exact a3.back (Nat.zero_le _) a2
end Go.Proofs.YthfjakbpeclfcaaGreatDoor
