/-
  Plain laws about digits: their value, comparing prefixes, doubling.
-/
import GoSem.PinnedTables
import Derived.KernelRfl
namespace Go.Proofs.YthfjakbpeclfcaaGreatDoor
open Go

def lexLt : List Int → List UInt8 → Bool
  | _, [] => false
  | [], _ :: _ => true
  | c :: cs, s :: ss => if c = (s.toNat : Int) then lexLt cs ss else decide (c < (s.toNat : Int))

def val : List Int → Int
  | [] => 0
  | c :: cs => (c - 48) * 10 ^ cs.length + val cs
def Dg (L : List Int) : Prop := ∀ c ∈ L, 48 ≤ c ∧ c ≤ 57
theorem Dg.tail {c : Int} {L : List Int} (h : Dg (c :: L)) : Dg L := fun x hx => h x (by simp [hx])
theorem Dg.head {c : Int} {L : List Int} (h : Dg (c :: L)) : 48 ≤ c ∧ c ≤ 57 := h c (by simp)
theorem ten_pos (n : Nat) : (0 : Int) < 10 ^ n := Int.pow_pos (by decide)
theorem val_bd : ∀ (L : List Int), Dg L → 0 ≤ val L ∧ val L < 10 ^ L.length
  | [], _ => by simp [val]
  | c :: cs, h => by
    obtain ⟨h1, h2⟩ := val_bd cs h.tail
    obtain ⟨c1, c2⟩ := h.head
    have hp := ten_pos cs.length
    have m1 : 0 ≤ (c - 48) * 10 ^ cs.length := Int.mul_nonneg (by omega) (by omega)
    have m2 : (c - 48) * 10 ^ cs.length ≤ 9 * 10 ^ cs.length := Int.mul_le_mul_of_nonneg_right (by omega) (by omega)
    simp only [val, List.length_cons, Int.pow_succ]
    omega
theorem val_head (c : Int) (cs : List Int) (h : Dg (c :: cs)) (hc : c ≠ 48) : 10 ^ cs.length ≤ val (c :: cs) := by
  obtain ⟨h1, _⟩ := val_bd cs h.tail
  obtain ⟨c1, c2⟩ := h.head
  have hp := ten_pos cs.length
  have m1 : 1 * 10 ^ cs.length ≤ (c - 48) * 10 ^ cs.length := Int.mul_le_mul_of_nonneg_right (by omega) (by omega)
  simp only [val]
  omega
theorem val_append : ∀ (L M : List Int), val (L ++ M) = val L * 10 ^ M.length + val M
  | [], M => by simp [val]
  | c :: cs, M => by
    simp only [List.cons_append, val, val_append cs M, List.length_append, Int.pow_add, Int.add_mul, Int.mul_assoc]
    omega

def codes (s : List UInt8) : List Int := s.map fun b => (b.toNat : Int)
theorem lexLt_ge : ∀ (L : List Int) (s : List UInt8), Dg L → Dg (codes s) → lexLt L s = false → val (codes s) * 10 ^ L.length ≤ val L * 10 ^ s.length
  | L, [], hL, _, _ => by simp [codes, val]; exact (val_bd L hL).1
  | [], _ :: _, _, _, h => by simp [lexLt] at h
  | c :: cs, b :: bs, hL, hs, h => by
    obtain ⟨v1, v2⟩ := val_bd cs hL.tail
    obtain ⟨u1, u2⟩ := val_bd (codes bs) (fun x hx => hs x (by simpa [codes] using Or.inr (by simpa [codes] using hx)))
    have hl : (codes bs).length = bs.length := by simp [codes]
    rw [hl] at u2
    simp only [codes, List.map_cons, val, List.length_cons, Int.pow_succ, List.length_map]
    have e : List.map (fun b : UInt8 => (b.toNat : Int)) bs = codes bs := rfl
    rw [e]
    have p1 := ten_pos cs.length
    have p2 := ten_pos bs.length
    unfold lexLt at h
    split at h
    · rename_i hc
      have ih := lexLt_ge cs bs hL.tail (fun x hx => hs x (by simpa [codes] using Or.inr (by simpa [codes] using hx))) h
      have e1 : (c - 48) * 10 ^ cs.length * (10 ^ bs.length * 10) = (c - 48) * 10 ^ bs.length * (10 ^ cs.length * 10) := by
        simp only [Int.mul_assoc, Int.mul_left_comm, Int.mul_comm]
      have e2 : val (codes bs) * (10 ^ cs.length * 10) = val (codes bs) * 10 ^ cs.length * 10 := by rw [Int.mul_assoc]
      have e3 : val cs * (10 ^ bs.length * 10) = val cs * 10 ^ bs.length * 10 := by rw [Int.mul_assoc]
      rw [← hc, Int.add_mul, Int.add_mul, e1, e2, e3]
      omega
    · rename_i hc
      have hlt : (b.toNat : Int) + 1 ≤ c := by
        have : ¬ c < (b.toNat : Int) := by simpa using h
        omega
      have q1 : ((b.toNat : Int) - 48) * 10 ^ bs.length + val (codes bs) ≤ (c - 48) * 10 ^ bs.length := by
        have : ((b.toNat : Int) - 48 + 1) * 10 ^ bs.length ≤ (c - 48) * 10 ^ bs.length := Int.mul_le_mul_of_nonneg_right (by omega) (by omega)
        rw [Int.add_mul] at this
        omega
      have q2 := Int.mul_le_mul_of_nonneg_right q1 (show (0 : Int) ≤ 10 ^ cs.length * 10 by omega)
      have q3 : (c - 48) * 10 ^ bs.length * (10 ^ cs.length * 10) = (c - 48) * 10 ^ cs.length * (10 ^ bs.length * 10) := by
        simp only [Int.mul_assoc, Int.mul_left_comm, Int.mul_comm]
      have q4 : 0 ≤ val cs * (10 ^ bs.length * 10) := Int.mul_nonneg v1 (by omega)
      rw [q3] at q2
      rw [Int.add_mul ((c - 48) * 10 ^ cs.length)]
      omega
theorem lexLt_lt : ∀ (L : List Int) (s : List UInt8), Dg L → Dg (codes s) → (∀ x, s.getLast? = some x → x ≠ 48) → lexLt L s = true → val L * 10 ^ s.length < val (codes s) * 10 ^ L.length
  | L, [], _, _, _, h => by simp [lexLt] at h
  | [], b :: bs, _, hs, hl, _ => by
    simp only [val, List.length_nil, Int.pow_zero, Int.mul_one, Int.zero_mul]
    -- the last digit is not nought
    have hne : (b :: bs) ≠ [] := by simp
    have hx := hl _ (List.getLast?_eq_some_getLast hne)
    have hd : Dg (codes (b :: bs)) := hs
    have e := List.dropLast_concat_getLast hne
    have e2 : codes (b :: bs) = codes ((b :: bs).dropLast) ++ [(((b :: bs).getLast hne).toNat : Int)] := by
      conv => lhs; rw [← e]
      simp [codes]
    rw [e2, val_append]
    have hdl : Dg (codes ((b :: bs).dropLast)) := fun x hx => hd x (by rw [e2]; simp [hx])
    have h1 := (val_bd _ hdl).1
    have h2 := hd (((b :: bs).getLast hne).toNat : Int) (by rw [e2]; simp)
    have h3 : (((b :: bs).getLast hne).toNat : Int) ≠ 48 := by
      intro e3
      apply hx
      apply UInt8.toNat_inj.1
      have : ((b :: bs).getLast hne).toNat = 48 := by omega
      rw [this]; rfl
    simp [val]
    omega
  | c :: cs, b :: bs, hL, hs, hl, h => by
    obtain ⟨v1, v2⟩ := val_bd cs hL.tail
    have hs' : Dg (codes bs) := fun x hx => hs x (by simpa [codes] using Or.inr (by simpa [codes] using hx))
    obtain ⟨u1, u2⟩ := val_bd (codes bs) hs'
    have hl2 : (codes bs).length = bs.length := by simp [codes]
    rw [hl2] at u2
    simp only [codes, List.map_cons, val, List.length_cons, Int.pow_succ, List.length_map]
    have e : List.map (fun b : UInt8 => (b.toNat : Int)) bs = codes bs := rfl
    rw [e]
    have p1 := ten_pos cs.length
    have p2 := ten_pos bs.length
    unfold lexLt at h
    split at h
    · rename_i hc
      have hbs : bs ≠ [] := by
        intro e0; subst e0; simp [lexLt] at h
      have ih := lexLt_lt cs bs hL.tail hs' (fun x hx => hl x (by rw [List.getLast?_cons]; simp [hx])) h
      have e1 : (c - 48) * 10 ^ cs.length * (10 ^ bs.length * 10) = (c - 48) * 10 ^ bs.length * (10 ^ cs.length * 10) := by
        simp only [Int.mul_assoc, Int.mul_left_comm, Int.mul_comm]
      have e2 : val (codes bs) * (10 ^ cs.length * 10) = val (codes bs) * 10 ^ cs.length * 10 := by rw [Int.mul_assoc]
      have e3 : val cs * (10 ^ bs.length * 10) = val cs * 10 ^ bs.length * 10 := by rw [Int.mul_assoc]
      rw [← hc, Int.add_mul, Int.add_mul, e1, e2, e3]
      omega
    · rename_i hc
      have hlt : c + 1 ≤ (b.toNat : Int) := by
        have : c < (b.toNat : Int) := by simpa using h
        omega
      have q1 : (c - 48) * 10 ^ cs.length + val cs < ((b.toNat : Int) - 48) * 10 ^ cs.length := by
        have : (c - 48 + 1) * 10 ^ cs.length ≤ ((b.toNat : Int) - 48) * 10 ^ cs.length := Int.mul_le_mul_of_nonneg_right (by omega) (by omega)
        rw [Int.add_mul] at this
        omega
      have q2 := Int.mul_lt_mul_of_pos_right q1 (show (0 : Int) < 10 ^ bs.length * 10 by omega)
      have q3 : ((b.toNat : Int) - 48) * 10 ^ cs.length * (10 ^ bs.length * 10) = ((b.toNat : Int) - 48) * 10 ^ bs.length * (10 ^ cs.length * 10) := by
        simp only [Int.mul_assoc, Int.mul_left_comm, Int.mul_comm]
      have q4 : 0 ≤ val (codes bs) * (10 ^ cs.length * 10) := Int.mul_nonneg u1 (by omega)
      rw [q3] at q2
      rw [Int.add_mul (((b.toNat : Int) - 48) * 10 ^ bs.length)]
      omega

/-! The table of the new digits. -/
def chD (k : Nat) : Nat := (Go.Pinned.cheatRows.getD k (0, [])).1
def chS (k : Nat) : List UInt8 := (Go.Pinned.cheatRows.getD k (0, [])).2
def chOk (k : Nat) : Bool :=
  decide (1 ≤ chD k) && decide ((chS k).length + chD k = k + 1) && decide (val (codes (chS k)) = 5 ^ k) && decide ((10 : Nat) ^ (chD k - 1) ≤ 2 ^ k) && decide ((2 : Nat) ^ k < 10 ^ chD k) &&
    (chS k).all (fun b => decide (48 ≤ b.toNat) && decide (b.toNat ≤ 57)) && decide ((chS k).getLast? = some 53)
theorem chOk_all : (List.range 60).all (fun k => chOk (k + 1)) = true := by decide +kernel
theorem ch_len : Go.Pinned.cheatRows.length = 61 := by decide +kernel
theorem ch_facts (k : Nat) (h0 : 0 < k) (h1 : k ≤ 60) : 1 ≤ chD k ∧ (chS k).length + chD k = k + 1 ∧ val (codes (chS k)) = 5 ^ k ∧ (10 : Nat) ^ (chD k - 1) ≤ 2 ^ k ∧ (2 : Nat) ^ k < 10 ^ chD k ∧
    Dg (codes (chS k)) ∧ (∀ x, (chS k).getLast? = some x → x ≠ 48) := by
  have h := List.all_eq_true.1 chOk_all (k - 1) (List.mem_range.2 (by omega))
  rw [show k - 1 + 1 = k from by omega] at h
  unfold chOk at h
  simp only [Bool.and_eq_true, decide_eq_true_eq, List.all_eq_true] at h
  obtain ⟨⟨⟨⟨⟨⟨a, b⟩, c⟩, d⟩, e⟩, f⟩, g⟩ := h
  refine ⟨a, b, c, d, e, fun x hx => ?_, fun x hx => ?_⟩
  · simp only [codes, List.mem_map] at hx
    obtain ⟨y, hy, rfl⟩ := hx
    have := f y hy
    omega
  · rw [g] at hx
    injection hx with hx
    subst hx
    decide

/-! Doubling k times, digit by digit from the right. -/
def ls1 (k : Nat) : List Int → Int → List Int → Int × List Int
  | [], n, o => (n, o)
  | c :: cs, n, o => ls1 k cs ((n + (c - 48) * 2 ^ k) / 10) (((n + (c - 48) * 2 ^ k) % 10 + 48) :: o)
def ls2 : Nat → Int → List Int → List Int
  | 0, _, o => o
  | f + 1, n, o => if n = 0 then o else ls2 f (n / 10) ((n % 10 + 48) :: o)

theorem ls1_inv (k : Nat) : ∀ (R : List Int) (n : Int) (o : List Int), (ls1 k R n o).2.length = R.length + o.length ∧
    (ls1 k R n o).1 * 10 ^ (ls1 k R n o).2.length + val (ls1 k R n o).2 = (val R.reverse * 2 ^ k + n) * 10 ^ o.length + val o
  | [], n, o => by simp [ls1, val]
  | c :: cs, n, o => by
    obtain ⟨h1, h2⟩ := ls1_inv k cs ((n + (c - 48) * 2 ^ k) / 10) (((n + (c - 48) * 2 ^ k) % 10 + 48) :: o)
    unfold ls1
    refine ⟨by rw [h1]; simp; omega, ?_⟩
    rw [h2, List.reverse_cons, val_append]
    simp only [val, List.length_cons, List.length_nil, Int.pow_succ, Int.pow_zero]
    have hm := Int.emod_add_mul_ediv (n + (c - 48) * 2 ^ k) 10
    generalize hA : (n + (c - 48) * 2 ^ k) / 10 = A at *
    generalize hB : (n + (c - 48) * 2 ^ k) % 10 = B at *
    generalize hT : (10 : Int) ^ o.length = T at *
    generalize hP : (2 : Int) ^ k = P at *
    generalize hV : val cs.reverse = V at *
    have e1 : (V * P + A) * (T * 10) = (V * P * 10 + A * 10) * T := by
      rw [Int.mul_comm T 10, ← Int.mul_assoc, Int.add_mul]
    have e2 : (V * (1 * 10) + ((c - 48) * 1 + 0)) * P = V * P * 10 + (c - 48) * P := by
      rw [Int.add_mul, Int.one_mul, Int.mul_one, Int.add_zero, Int.mul_right_comm]
    rw [e1, e2]
    have e3 : (B + 48 - 48) * T = B * T := by congr 1; omega
    rw [e3, ← Int.add_assoc, ← Int.add_mul]
    congr 2
    omega
theorem ls2_inv : ∀ (f : Nat) (n : Int) (o : List Int), 0 ≤ n → n < 10 ^ f →
    val (ls2 f n o) = n * 10 ^ o.length + val o ∧ (∀ d, (d = 0 ∨ 10 ^ (d - 1) ≤ n) → d + o.length ≤ (ls2 f n o).length)
  | 0, n, o, h0, h1 => by
    have : n = 0 := by simp at h1; omega
    subst this
    refine ⟨by simp [ls2], fun d hd => ?_⟩
    rcases hd with rfl | hd
    · simp [ls2]
    · have := ten_pos (d - 1); omega
  | f + 1, n, o, h0, h1 => by
    unfold ls2
    split
    · rename_i hn
      subst hn
      refine ⟨by simp, fun d hd => ?_⟩
      rcases hd with rfl | hd
      · simp
      · have := ten_pos (d - 1); omega
    · rename_i hn
      have hlt : n / 10 < 10 ^ f := by
        rw [Int.pow_succ] at h1
        omega
      obtain ⟨i1, i2⟩ := ls2_inv f (n / 10) ((n % 10 + 48) :: o) (by omega) hlt
      refine ⟨?_, fun d hd2 => ?_⟩
      · rw [i1]
        simp only [val, List.length_cons, Int.pow_succ]
        have e3 : (n % 10 + 48 - 48) * 10 ^ o.length = n % 10 * 10 ^ o.length := by congr 1; omega
        rw [e3, ← Int.add_assoc, Int.mul_comm (10 ^ o.length) 10, ← Int.mul_assoc, ← Int.add_mul]
        congr 2
        omega
      · rcases Nat.lt_or_ge d 2 with hd | hd
        · have := i2 0 (.inl rfl)
          simp only [List.length_cons] at this
          omega
        · have hd3 : (10 : Int) ^ (d - 1) ≤ n := by
            rcases hd2 with h | h
            · omega
            · exact h
          have e : d - 1 = (d - 2) + 1 := by omega
          have hq : (10 : Int) ^ (d - 1 - 1) ≤ n / 10 := by
            rw [e, Int.pow_succ] at hd3
            rw [show d - 1 - 1 = d - 2 from by omega]
            omega
          have := i2 (d - 1) (.inr hq)
          simp only [List.length_cons] at this
          omega
theorem ls2_len : ∀ (f : Nat) (n : Int) (o : List Int) (d : Nat), 0 ≤ n → n < 10 ^ d → (ls2 f n o).length ≤ d + o.length
  | 0, n, o, d, _, _ => by simp [ls2]
  | f + 1, n, o, d, h0, h1 => by
    unfold ls2
    split
    · omega
    · rename_i hn
      cases d with
      | zero => simp at h1; omega
      | succ d =>
        rw [Int.pow_succ] at h1
        have := ls2_len f (n / 10) ((n % 10 + 48) :: o) d (by omega) (by omega)
        simp only [List.length_cons] at this
        omega
theorem ls1_dg (k : Nat) : ∀ (R : List Int) (n : Int) (o : List Int), Dg o → Dg (ls1 k R n o).2
  | [], _, _, h => h
  | c :: cs, n, o, h => ls1_dg k cs _ _ fun x hx => by
    rcases List.mem_cons.1 hx with rfl | hx
    · omega
    · exact h x hx
theorem ls2_dg : ∀ (f : Nat) (n : Int) (o : List Int), Dg o → Dg (ls2 f n o)
  | 0, _, _, h => h
  | f + 1, n, o, h => by
    unfold ls2
    split
    · exact h
    · exact ls2_dg f _ _ fun x hx => by
        rcases List.mem_cons.1 hx with rfl | hx
        · omega
        · exact h x hx
end Go.Proofs.YthfjakbpeclfcaaGreatDoor
namespace Go.Proofs.YthfjakbpeclfcaaGreatDoor
open Go
/-- How many digits come in. -/
def dlt (k : Nat) (L : List Int) : Nat := if lexLt L (chS k) then chD k - 1 else chD k
theorem val_rev (L : List Int) : val L.reverse.reverse = val L := by rw [List.reverse_reverse]
theorem ls_main (k : Nat) (h0 : 0 < k) (h1 : k ≤ 60) (c : Int) (cs : List Int) (hL : Dg (c :: cs)) (hc : c ≠ 48) :
    0 ≤ (ls1 k (c :: cs).reverse 0 []).1 ∧ (ls1 k (c :: cs).reverse 0 []).1 < 10 ^ dlt k (c :: cs) ∧ (dlt k (c :: cs) = 0 ∨ 10 ^ (dlt k (c :: cs) - 1) ≤ (ls1 k (c :: cs).reverse 0 []).1) ∧
    (ls1 k (c :: cs).reverse 0 []).2.length = (c :: cs).length ∧ Dg (ls1 k (c :: cs).reverse 0 []).2 ∧
    (ls1 k (c :: cs).reverse 0 []).1 * 10 ^ (c :: cs).length + val (ls1 k (c :: cs).reverse 0 []).2 = val (c :: cs) * 2 ^ k := by
  obtain ⟨f1, f2, f3, f4, f5, f6, f7⟩ := ch_facts k h0 h1
  obtain ⟨i1, i2⟩ := ls1_inv k (c :: cs).reverse 0 []
  have hdg := ls1_dg k (c :: cs).reverse 0 [] (by intro x hx; cases hx)
  generalize (ls1 k (c :: cs).reverse 0 []) = R at *
  obtain ⟨n, o⟩ := R
  simp only [List.length_reverse, List.length_nil, Nat.add_zero, Int.pow_zero, Int.mul_one, Int.add_zero, val_rev, show val [] = 0 from rfl] at i1 i2 hdg ⊢
  obtain ⟨b1, b2⟩ := val_bd o hdg
  obtain ⟨v1, v2⟩ := val_bd (c :: cs) hL
  have vh := val_head c cs hL hc
  rw [i1] at i2 b2
  have g4 : (10 : Int) ^ (chD k - 1) ≤ 2 ^ k := by exact_mod_cast f4
  have g5 : (2 : Int) ^ k < 10 ^ chD k := by exact_mod_cast f5
  generalize hV : val (c :: cs) = V at *
  have hlen : (c :: cs).length = cs.length + 1 := rfl
  generalize hm : (c :: cs).length = m at *
  have pm := ten_pos m
  have p2 : (0 : Int) < 2 ^ k := Int.pow_pos (by decide)
  -- V 2^k / 10^m is n
  have hnlt : ∀ d, V * 2 ^ k < 10 ^ d * 10 ^ m → n < 10 ^ d := by
    intro d hd
    have : n * 10 ^ m < 10 ^ d * 10 ^ m := by omega
    exact Int.lt_of_mul_lt_mul_right this (Int.le_of_lt pm)
  have hnge : ∀ d, 10 ^ d * 10 ^ m ≤ V * 2 ^ k → 10 ^ d ≤ n := by
    intro d hd
    have : 10 ^ d * 10 ^ m < (n + 1) * 10 ^ m := by rw [Int.add_mul]; omega
    have := Int.lt_of_mul_lt_mul_right this (Int.le_of_lt pm)
    omega
  have hn0 : 0 ≤ n := by
    have h3 : 0 ≤ V * 2 ^ k := Int.mul_nonneg v1 (Int.le_of_lt p2)
    have : 0 * 10 ^ m < (n + 1) * 10 ^ m := by rw [Int.add_mul]; omega
    have := Int.lt_of_mul_lt_mul_right this (Int.le_of_lt pm)
    omega
  have h52 : (5 : Int) ^ k * 2 ^ k = 10 ^ k := by rw [← Int.mul_pow]; rfl
  have hsl : (10 : Int) ^ k * 10 = 10 ^ (chS k).length * 10 ^ chD k := by rw [← Int.pow_add, f2, Int.pow_succ]
  have ps := ten_pos (chS k).length
  refine ⟨hn0, ?_, ?_, i1, hdg, i2⟩
  · unfold dlt
    cases hx : lexLt (c :: cs) (chS k) with
    | false =>
      simp only [Bool.false_eq_true, ↓reduceIte]
      refine hnlt _ ?_
      have a1 : V * 2 ^ k < 10 ^ m * 2 ^ k := Int.mul_lt_mul_of_pos_right v2 p2
      have a2 : (10 : Int) ^ m * 2 ^ k < 10 ^ m * 10 ^ chD k := Int.mul_lt_mul_of_pos_left g5 pm
      rw [Int.mul_comm (10 ^ chD k)]
      omega
    | true =>
      simp only [↓reduceIte]
      refine hnlt _ ?_
      have h := lexLt_lt (c :: cs) (chS k) hL f6 f7 hx
      rw [hV, f3, hm] at h
      have a1 := Int.mul_lt_mul_of_pos_right h p2
      have e1 : V * 10 ^ (chS k).length * 2 ^ k = V * 2 ^ k * 10 ^ (chS k).length := Int.mul_right_comm ..
      have e2 : (5 : Int) ^ k * 10 ^ m * 2 ^ k = 10 ^ (chD k - 1) * 10 ^ m * 10 ^ (chS k).length := by
        have e3 : (10 : Int) ^ k = 10 ^ (chD k - 1) * 10 ^ (chS k).length := by
          rw [← Int.pow_add]
          congr 1
          omega
        rw [Int.mul_right_comm, h52, e3]
        exact Int.mul_right_comm ..
      rw [e1, e2] at a1
      exact Int.lt_of_mul_lt_mul_right a1 (Int.le_of_lt ps)
  · unfold dlt
    cases hx : lexLt (c :: cs) (chS k) with
    | false =>
      simp only [Bool.false_eq_true, ↓reduceIte]
      refine .inr (hnge _ ?_)
      have h := lexLt_ge (c :: cs) (chS k) hL f6 hx
      rw [hV, f3, hm] at h
      have a1 := Int.mul_le_mul_of_nonneg_right h (Int.le_of_lt p2)
      have e1 : V * 10 ^ (chS k).length * 2 ^ k = V * 2 ^ k * 10 ^ (chS k).length := Int.mul_right_comm ..
      have e2 : (5 : Int) ^ k * 10 ^ m * 2 ^ k = 10 ^ (chD k - 1) * 10 ^ m * 10 ^ (chS k).length := by
        have e3 : (10 : Int) ^ k = 10 ^ (chD k - 1) * 10 ^ (chS k).length := by
          rw [← Int.pow_add]
          congr 1
          omega
        rw [Int.mul_right_comm, h52, e3]
        exact Int.mul_right_comm ..
      rw [e1, e2] at a1
      exact Int.le_of_mul_le_mul_right a1 ps
    | true =>
      simp only [↓reduceIte]
      rcases Nat.lt_or_ge (chD k) 2 with h2 | h2
      · left; omega
      · refine .inr (hnge _ ?_)
        have a1 := Int.mul_le_mul_of_nonneg_right vh (Int.le_of_lt p2)
        have a2 : (10 : Int) ^ cs.length * 10 ^ (chD k - 1) ≤ 10 ^ cs.length * 2 ^ k := Int.mul_le_mul_of_nonneg_left g4 (Int.le_of_lt (ten_pos _))
        have e : (10 : Int) ^ (chD k - 1 - 1) * 10 ^ m = 10 ^ cs.length * 10 ^ (chD k - 1) := by
          rw [← Int.pow_add, ← Int.pow_add]
          congr 1
          omega
        rw [e]
        omega
/-- All digits of the product. -/
def lsO (k : Nat) (L : List Int) : List Int := ls2 (dlt k L) (ls1 k L.reverse 0 []).1 (ls1 k L.reverse 0 []).2
theorem lsO_props (k : Nat) (h0 : 0 < k) (h1 : k ≤ 60) (c : Int) (cs : List Int) (hL : Dg (c :: cs)) (hc : c ≠ 48) :
    (lsO k (c :: cs)).length = dlt k (c :: cs) + (c :: cs).length ∧ Dg (lsO k (c :: cs)) ∧ val (lsO k (c :: cs)) = val (c :: cs) * 2 ^ k := by
  obtain ⟨a, b, d, e, f, g⟩ := ls_main k h0 h1 c cs hL hc
  obtain ⟨i1, i2⟩ := ls2_inv (dlt k (c :: cs)) _ (ls1 k (c :: cs).reverse 0 []).2 a b
  have i3 := i2 _ d
  have i4 := ls2_len (dlt k (c :: cs)) _ (ls1 k (c :: cs).reverse 0 []).2 _ a b
  refine ⟨?_, ls2_dg _ _ _ f, ?_⟩
  · unfold lsO
    rw [e] at i3 i4
    omega
  · unfold lsO
    rw [i1, e, g]
end Go.Proofs.YthfjakbpeclfcaaGreatDoor
