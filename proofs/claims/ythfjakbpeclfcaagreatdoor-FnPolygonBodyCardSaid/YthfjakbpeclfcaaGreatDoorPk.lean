/-
  Plain laws: in what the two roads of atof64 yield, the sign stands apart, and the value is finite where there is no error.
-/
import Derived.Test.YthfjakbpeclfcaaGreatDoorGShA
import Derived.Test.YthfjakbpeclfcaaGreatDoorGFl
import Derived.Test.YthfjakbpeclfcaaGreatDoorGSh
import Derived.Laws.Bits64b
import Derived.Laws.BitsLemmas
import Derived.Lib.ItoaNum
namespace Go.Proofs.YthfjakbpeclfcaaGreatDoor
open Go.RowKit Go
theorem wrapu_nat (n : Nat) (h : n < 18446744073709551616) : IntKind.u64.wrap (n : Int) = n := by rw [IntKind.wrap_u64]; omega
theorem band_le (m : Int) (c : Nat) (hc : c < 18446744073709551616) : ∃ k : Nat, bits .and .u64 m (c : Int) = k ∧ k ≤ c := by
  refine ⟨(BitVec.ofInt 64 m).toNat &&& c, ?_, Nat.and_le_right⟩
  have h2 : (BitVec.ofInt 64 (c : Int)).toNat = c := by
    rw [BitVec.ofInt_natCast, BitVec.toNat_ofNat]; exact Nat.mod_eq_of_lt (by omega)
  show IntKind.u64.wrap ((BitVec.ofInt 64 m &&& BitVec.ofInt 64 (c : Int)).toNat : Int) = _
  rw [BitVec.toNat_and, h2]
  exact wrapu_nat _ (Nat.lt_of_le_of_lt Nat.and_le_right hc)
theorem bor_sign (b : Bool) (m : Nat) (h : m < 9223372036854775808) : bits .or .u64 ((if b then 9223372036854775808 else 0 : Nat) : Int) (m : Int) = (((if b then 9223372036854775808 else 0) + m : Nat) : Int) := by
  cases b
  · rw [bits_or_u64_nat _ _ (by decide) (by omega)]
    simp
  · rw [bits_or_u64_nat _ _ (by decide) (by omega)]
    have := Nat.two_pow_add_eq_or_of_lt (i := 63) (b := m) (by omega) 1
    simp only [if_true]
    rw [show (2 : Nat) ^ 63 * 1 = 9223372036854775808 from by decide] at this
    omega
theorem bor_sign2 (m : Nat) (h : m < 9223372036854775808) : bits .or .u64 (m : Int) 9223372036854775808 = ((9223372036854775808 + m : Nat) : Int) := by
  have := bor_sign true m h
  rw [show (9223372036854775808 : Int) = ((9223372036854775808 : Nat) : Int) from rfl]
  rw [bits_or_u64_nat _ _ (by omega) (by decide), Nat.or_comm, ← bits_or_u64_nat _ _ (by decide) (by omega)]
  exact this
theorem bor_disj (x y i : Nat) (hy : y < 2 ^ i) (h : 2 ^ i * x + y < 18446744073709551616) : bits .or .u64 (y : Int) ((2 ^ i * x : Nat) : Int) = ((2 ^ i * x + y : Nat) : Int) := by
  rw [bits_or_u64_nat _ _ (by omega) (by omega), Nat.or_comm, ← Nat.two_pow_add_eq_or_of_lt hy]
theorem bnot52 (q r : Nat) (hr : r < 4503599627370496) (hq : q < 2048) :
    bits .andNot .u64 ((9007199254740992 * q + 4503599627370496 + r : Nat) : Int) 4503599627370496 = ((9007199254740992 * q + r : Nat) : Int) := by
  have key : (9007199254740992 * q + 4503599627370496 + r) &&& (18446744073709551615 - 4503599627370496) = 9007199254740992 * q + r := by
    apply Nat.eq_of_testBit_eq
    intro i
    rw [Nat.testBit_and]
    have c1 : (18446744073709551615 - 4503599627370496).testBit i = (decide (i < 64) && !decide (i = 52)) := by
      have : (18446744073709551615 - 4503599627370496) = 2 ^ 64 - (4503599627370496 + 1) := by decide
      rw [this, Nat.testBit_two_pow_sub_succ (by decide)]
      rw [show (4503599627370496 : Nat) = 2 ^ 52 from by decide, Nat.testBit_two_pow]
      congr 2
      simp [eq_comm]
    have e1 : 9007199254740992 * q + 4503599627370496 + r = 2 ^ 52 * (2 * q + 1) + r := by omega
    have e2 : 9007199254740992 * q + r = 2 ^ 52 * (2 * q) + r := by omega
    rw [c1, e1, e2, Nat.testBit_two_pow_mul_add _ hr, Nat.testBit_two_pow_mul_add _ hr]
    by_cases h1 : i < 52
    · rw [if_pos h1, if_pos h1]
      have : i < 64 := by omega
      simp [this]; omega
    · rw [if_neg h1, if_neg h1]
      by_cases h2 : i = 52
      · subst h2
        simp
      · obtain ⟨k, rfl⟩ : ∃ k, i = 52 + (k + 1) := ⟨i - 53, by omega⟩
        rw [show 52 + (k + 1) - 52 = k + 1 from by omega, Nat.testBit_succ, Nat.testBit_succ]
        rw [show (2 * q + 1) / 2 = q from by omega, show 2 * q / 2 = q from by omega]
        by_cases h3 : 52 + (k + 1) < 64
        · simp [h3]
        · have : q.testBit k = false := Nat.testBit_lt_two_pow (Nat.lt_of_lt_of_le hq (by
            rw [show 2048 = 2 ^ 11 from by decide]
            exact Nat.pow_le_pow_right (by decide) (by omega)))
          simp [this]
  have h1 : (BitVec.ofInt 64 ((9007199254740992 * q + 4503599627370496 + r : Nat) : Int)).toNat = 9007199254740992 * q + 4503599627370496 + r := by
    rw [BitVec.ofInt_natCast, BitVec.toNat_ofNat]; exact Nat.mod_eq_of_lt (by omega)
  have h2 : (~~~ (BitVec.ofInt 64 4503599627370496)).toNat = 18446744073709551615 - 4503599627370496 := by decide
  show IntKind.u64.wrap ((BitVec.ofInt 64 ((9007199254740992 * q + 4503599627370496 + r : Nat) : Int) &&& ~~~ BitVec.ofInt 64 4503599627370496).toNat : Int) = _
  rw [BitVec.toNat_and, h1, h2, key]
  exact wrapu_nat _ (by omega)
theorem band52 (q r : Nat) (hr : r < 4503599627370496) (hq : q < 4096) :
    bits .and .u64 ((4503599627370496 * q + r : Nat) : Int) 4503599627370496 = ((q % 2 * 4503599627370496 : Nat) : Int) := by
  rw [show (4503599627370496 : Int) = ((4503599627370496 : Nat) : Int) from rfl, bits_and_u64_nat _ _ (by omega) (by decide)]
  congr 1
  have e : (4503599627370496 : Nat) = 2 ^ 52 := by decide
  have hr' : r < 2 ^ 52 := by omega
  have e2 : q % 2 * 2 ^ 52 = 2 ^ 52 * (q % 2) + 0 := by omega
  rw [e, e2]
  apply Nat.eq_of_testBit_eq
  intro i
  rw [Nat.testBit_and, Nat.testBit_two_pow, Nat.testBit_two_pow_mul_add _ hr', Nat.testBit_two_pow_mul_add _ (by decide)]
  by_cases h1 : i < 52
  · rw [if_pos h1, if_pos h1]
    have : ¬ 52 = i := by omega
    simp [this]
  · rw [if_neg h1, if_neg h1]
    by_cases h2 : 52 = i
    · subst h2
      simp
    · obtain ⟨k, rfl⟩ : ∃ k, i = 52 + (k + 1) := ⟨i - 53, by omega⟩
      rw [show 52 + (k + 1) - 52 = k + 1 from by omega, Nat.testBit_succ (q % 2), show q % 2 / 2 = 0 from by omega]
      simp
def sgw (b : Bool) : Nat := if b then 9223372036854775808 else 0
theorem sg_sgw (b : Bool) (r : Nat) : sg b r = sgw b + r := by cases b <;> simp [sg, sgw]
theorem pk_sign (b : Bool) (m : Nat) (hm : m < 9007199254740992) (e : Int) (he0 : -1074 ≤ e) :
    pkB (bits .or .u64 (sgw b : Int) (m : Int)) e = sg b (pkB m e) ∧ pkE (bits .or .u64 (sgw b : Int) (m : Int)) e = pkE m e ∧
      pkB m e ≤ infR ∧ (pkE m e = .nilIface → pkB m e < infR) ∧ (pkE m e = .nilIface ∨ pkE m e = .iface 162 (.int .i64 1)) := by
  have hs : bits .or .u64 (sgw b : Int) (m : Int) = ((sgw b + m : Nat) : Int) := bor_sign b m (by omega)
  have hq : m / 4503599627370496 < 2 := by omega
  obtain ⟨q, r, rfl, hr, hq⟩ : ∃ q r, m = 4503599627370496 * q + r ∧ r < 4503599627370496 ∧ q < 2 := ⟨m / 4503599627370496, m % 4503599627370496, by omega, by omega, hq⟩
  have hs1 : ∃ k, sgw b = 4503599627370496 * (2 * k) ∧ k ≤ 1024 := by
    cases b
    · exact ⟨0, rfl, by omega⟩
    · exact ⟨1024, rfl, by omega⟩
  obtain ⟨k, hk, hk2⟩ := hs1
  have a1 := band52 q r hr (by omega)
  have a2 := band52 (2 * k + q) r hr (by omega)
  have e2 : sgw b + (4503599627370496 * q + r) = 4503599627370496 * (2 * k + q) + r := by rw [hk]; omega
  rw [← e2] at a2
  have e3 : (2 * k + q) % 2 = q := by omega
  rw [e3] at a2
  rw [show q % 2 = q from by omega] at a1
  rw [hs]
  by_cases h0 : q = 0
  · subst h0
    have a1' : bits .and .u64 ((4503599627370496 * 0 + r : Nat) : Int) 4503599627370496 = 0 := by rw [a1]; rfl
    have a2' : bits .and .u64 ((sgw b + (4503599627370496 * 0 + r) : Nat) : Int) 4503599627370496 = 0 := by rw [a2]; rfl
    unfold pkB pkE
    rw [if_pos a1', if_pos a2', if_pos a1', if_pos a2', Int.toNat_natCast, Int.toNat_natCast, sg_sgw]
    refine ⟨rfl, rfl, ?_, fun _ => ?_, .inl rfl⟩
    · unfold infR; omega
    · unfold infR; omega
  · have h1 : q = 1 := by omega
    subst h1
    have a1' : ¬ bits .and .u64 ((4503599627370496 * 1 + r : Nat) : Int) 4503599627370496 = 0 := by rw [a1]; decide
    have a2' : ¬ bits .and .u64 ((sgw b + (4503599627370496 * 1 + r) : Nat) : Int) 4503599627370496 = 0 := by rw [a2]; decide
    unfold pkB pkE
    rw [if_neg a1', if_neg a2', if_neg a1', if_neg a2']
    by_cases he : 972 ≤ e
    · simp only [if_pos he]
      have b1 : bits .and .u64 ((4503599627370496 * 1 + r : Nat) : Int) 9223372036854775808 = 0 := by
        rw [show (9223372036854775808 : Int) = ((9223372036854775808 : Nat) : Int) from rfl, bits_and_u64_nat _ _ (by omega) (by decide)]
        rw [show (9223372036854775808 : Nat) = 2 ^ 63 from by decide]
        have : (4503599627370496 * 1 + r) &&& 2 ^ 63 = 0 := by
          apply Nat.eq_of_testBit_eq
          intro i
          rw [Nat.testBit_and, Nat.testBit_two_pow, Nat.zero_testBit]
          by_cases hi : 63 = i
          · subst hi
            rw [Nat.testBit_lt_two_pow (by omega)]
            rfl
          · simp [hi]
        rw [this]; rfl
      have b2 : bits .and .u64 ((sgw b + (4503599627370496 * 1 + r) : Nat) : Int) 9223372036854775808 = sgw b := by
        rw [show (9223372036854775808 : Int) = ((9223372036854775808 : Nat) : Int) from rfl, bits_and_u64_nat _ _ (by cases b <;> simp [sgw] <;> omega) (by decide)]
        rw [show (9223372036854775808 : Nat) = 2 ^ 63 from by decide]
        have : (sgw b + (4503599627370496 * 1 + r)) &&& 2 ^ 63 = sgw b := by
          apply Nat.eq_of_testBit_eq
          intro i
          rw [Nat.testBit_and, Nat.testBit_two_pow]
          cases b
          · simp only [sgw, if_neg, Bool.false_eq_true, not_false_eq_true, Nat.zero_testBit, Nat.zero_add]
            by_cases hi : 63 = i
            · subst hi
              rw [Nat.testBit_lt_two_pow (by omega)]
              rfl
            · simp [hi]
          · simp only [sgw, if_true]
            rw [show (9223372036854775808 : Nat) = 2 ^ 63 from by decide, Nat.testBit_two_pow]
            by_cases hi : 63 = i
            · subst hi
              rw [Nat.testBit_two_pow_add_eq, Nat.testBit_lt_two_pow (by omega)]
              rfl
            · simp [hi]
        rw [this]
      rw [b1, b2]
      have c1 : bits .or .u64 0 9218868437227405312 = 9218868437227405312 := by decide
      have c2 : bits .or .u64 (sgw b : Int) 9218868437227405312 = ((sgw b + 9218868437227405312 : Nat) : Int) := bor_sign b 9218868437227405312 (by decide)
      rw [c1, c2, sg_sgw, Int.toNat_natCast]
      refine ⟨rfl, trivial, ?_, fun h => by simp at h, .inr trivial⟩
      unfold infR; decide
    · simp only [if_neg he]
      have d1 := bnot52 0 r hr (by decide)
      have d2 := bnot52 k r hr (by omega)
      rw [show 9007199254740992 * 0 + 4503599627370496 + r = 4503599627370496 * 1 + r from by omega, show 9007199254740992 * 0 + r = r from by omega] at d1
      rw [show 9007199254740992 * k + 4503599627370496 + r = sgw b + (4503599627370496 * 1 + r) from by rw [hk]; omega, show 9007199254740992 * k + r = sgw b + r from by rw [hk]; omega] at d2
      rw [d1, d2]
      obtain ⟨x, hx⟩ : ∃ x : Nat, 1075 + e = x := ⟨(1075 + e).toNat, by omega⟩
      rw [hx, show ((x : Int) * 4503599627370496) = ((2 ^ 52 * x : Nat) : Int) from by rw [Nat.mul_comm]; rfl]
      have hxl : x ≤ 2046 := by omega
      rw [bor_disj x r 52 hr (by omega)]
      have f2 : bits .or .u64 ((sgw b + r : Nat) : Int) ((2 ^ 52 * x : Nat) : Int) = ((sgw b + (2 ^ 52 * x + r) : Nat) : Int) := by
        have g1 : bits .or .u64 (sgw b : Int) ((2 ^ 52 * x + r : Nat) : Int) = ((sgw b + (2 ^ 52 * x + r) : Nat) : Int) := bor_sign b _ (by omega)
        rw [← g1]
        have g2 : ((sgw b + r : Nat) : Int) = bits .or .u64 (sgw b : Int) (r : Int) := (bor_sign b r (by omega)).symm
        rw [g2, ← bor_disj x r 52 hr (by omega)]
        have hsb : sgw b < 18446744073709551616 := by cases b <;> decide
        have hrb : r < 18446744073709551616 := by omega
        have hxb : 2 ^ 52 * x < 18446744073709551616 := by omega
        rw [bits_or_u64_nat _ _ hsb hrb, bits_or_u64_nat _ _ hrb hxb]
        have hlt : r ||| 2 ^ 52 * x < 2 ^ 64 := Nat.or_lt_two_pow (by omega) (by omega)
        have hlt2 : sgw b ||| r < 2 ^ 64 := Nat.or_lt_two_pow (by omega) (by omega)
        rw [bits_or_u64_nat _ _ (by omega) hxb, bits_or_u64_nat _ _ hsb (by omega), Nat.or_assoc]
      rw [f2, sg_sgw, Int.toNat_natCast, Int.toNat_natCast]
      refine ⟨rfl, trivial, ?_, fun _ => ?_, .inl trivial⟩
      · unfold infR; omega
      · unfold infR; omega

theorem asm_eq (m e : Int) (he0 : -1023 ≤ e) (he1 : e ≤ 1024) : ∃ k : Nat, bits .and .u64 m 4503599627370495 = k ∧ k ≤ 4503599627370495 ∧ asm m e = ((2 ^ 52 * (e + 1023).toNat + k : Nat) : Int) := by
  obtain ⟨k, h1, h2⟩ := band_le m 4503599627370495 (by decide)
  refine ⟨k, h1, h2, ?_⟩
  unfold asm
  rw [show (4503599627370495 : Int) = ((4503599627370495 : Nat) : Int) from rfl, h1]
  obtain ⟨x, hx⟩ : ∃ x : Nat, e + 1023 = x := ⟨(e + 1023).toNat, by omega⟩
  have hxl : x ≤ 2047 := by omega
  rw [hx, Int.toNat_natCast]
  have := (bits_nat .i64 63 (by decide) (fun n h0 h1 => by rw [IntKind.wrap_i64]; omega) x 2047 (by omega) (by decide)).1
  rw [show (2047 : Int) = ((2047 : Nat) : Int) from rfl, this]
  have e1 : x &&& 2047 = x % 2048 := Nat.and_two_pow_sub_one_eq_mod x 11
  rw [e1, Nat.mod_eq_of_lt (by omega), wrapu_nat x (by omega)]
  rw [show ((x : Int) * 4503599627370496) = ((2 ^ 52 * x : Nat) : Int) from by rw [Nat.mul_comm]; rfl]
  rw [wrapu_nat _ (by omega), bor_disj x k 52 (by omega) (by omega)]
theorem asm_sign (ng : Bool) (m e : Int) (he0 : -1023 ≤ e) (he1 : e ≤ 1024) : (asmS ng m e).toNat = sg ng (asm m e).toNat ∧ 0 ≤ asmS ng m e := by
  obtain ⟨k, h1, h2, h3⟩ := asm_eq m e he0 he1
  have hx : (e + 1023).toNat ≤ 2047 := by omega
  generalize (e + 1023).toNat = x at *
  unfold asmS
  rw [h3]
  cases ng
  · simp [sg]
    omega
  · rw [if_pos rfl, bor_sign2 _ (by omega), Int.toNat_natCast, Int.toNat_natCast]
    refine ⟨rfl, by omega⟩
theorem asm_fin (m e : Int) (he0 : -1023 ≤ e) (he1 : e ≤ 1023) : (asm m e).toNat < infR := by
  obtain ⟨k, h1, h2, h3⟩ := asm_eq m e he0 (by omega)
  rw [h3, Int.toNat_natCast]
  unfold infR
  omega
theorem asm_inf : (asm 0 1024).toNat = infR := by decide
theorem p10_ok : (Go.Pinned.pow10Rows.length = 696) ∧ ∀ x ∈ Go.Pinned.pow10Rows, 9223372036854775808 ≤ x.1 ∧ x.1 < 18445618173802708992 ∧ x.2 < 18446744073709551616 := by
  have h : (Go.Pinned.pow10Rows.length == 696 && Go.Pinned.pow10Rows.all fun x => decide (9223372036854775808 ≤ x.1) && decide (x.1 < 18445618173802708992) && decide (x.2 < 18446744073709551616)) = true := by decide +kernel
  rw [Bool.and_eq_true] at h
  refine ⟨by simpa using h.1, fun x hx => ?_⟩
  have := List.all_eq_true.1 h.2 x hx
  simp at this
  omega
theorem p10_at (i : Nat) (hi : i < 696) : 9223372036854775808 ≤ p10h i ∧ p10h i < 18445618173802708992 ∧ p10l i < 18446744073709551616 := by
  obtain ⟨h1, h2⟩ := p10_ok
  have hlt : i < Go.Pinned.pow10Rows.length := by rw [h1]; exact hi
  have := h2 _ (List.getElem_mem hlt)
  unfold p10h p10l
  rw [List.getD_eq_getElem?_getD, List.getElem?_eq_getElem hlt]
  exact this
theorem or_le_succ (a c : Nat) (ha : a < 9223372036854775808) (hc : c ≤ 1) : ∃ k : Nat, bits .or .u64 (a : Int) (c : Int) = k ∧ a ≤ k ∧ k ≤ a + 1 := by
  refine ⟨a ||| c, bits_or_u64_nat _ _ (by omega) (by omega), Nat.left_le_or, ?_⟩
  rcases Nat.le_one_iff_eq_zero_or_eq_one.1 hc with rfl | rfl
  · simp
  · have h0 := Nat.two_pow_add_eq_or_of_lt (i := 1) (b := a % 2) (by omega) (a / 2)
    have h1 := Nat.two_pow_add_eq_or_of_lt (i := 1) (b := 1) (by omega) (a / 2)
    have e : a = 2 ^ 1 * (a / 2) ||| a % 2 := by omega
    have e1 : a % 2 ||| 1 = 1 := by rcases Nat.mod_two_eq_zero_or_one a with h | h <;> rw [h] <;> rfl
    have : a ||| 1 = 2 ^ 1 * (a / 2) ||| 1 := by
      have := congrArg (· ||| 1) e
      simp only [Nat.or_assoc, e1] at this
      exact this
    rw [this, ← h1]
    omega
theorem us_bound (x i s : Nat) (hi : i < 696) (hx0 : 9223372036854775808 ≤ x) (hx : x < 18446744073709551616) (hs : 8 ≤ s) :
    ∃ u : Nat, uscaleI x (p10h i) (p10l i) s = u ∧ u ≤ 72053195991416834 := by
  obtain ⟨h1, h2, h3⟩ := p10_at i hi
  generalize p10h i = h at *
  generalize p10l i = l at *
  have hh0 : 4611686018427387904 ≤ hi64 x h := by
    unfold hi64
    have := Nat.mul_le_mul hx0 h1
    omega
  have hh1 : hi64 x h < 18445618173802708992 := by
    unfold hi64
    have : x * h < 18446744073709551616 * 18445618173802708992 := Nat.mul_lt_mul'' hx h2
    omega
  have hp : 256 ≤ 2 ^ s := by
    have : (2 : Nat) ^ 8 ≤ 2 ^ s := Nat.pow_le_pow_right (by decide) hs
    omega
  unfold uscaleI
  generalize hi64 x h = a at *
  generalize lo64 x h = b at *
  generalize hi64 x l = c at *
  have hd : ∀ y : Nat, y ≤ a → y / 2 ^ s ≤ 72053195991416832 := by
    intro y hy
    have := Nat.div_le_div_left (a := y) hp (by decide)
    omega
  have hcast : ∀ y : Nat, ((y : Int) / 2 ^ s) = ((y / 2 ^ s : Nat) : Int) := by intro y; simp
  split
  · rw [hcast]
    obtain ⟨k, k1, k2, k3⟩ := or_le_succ (a / 2 ^ s) 1 (by have := hd a (Nat.le_refl _); omega) (by decide)
    exact ⟨k, k1, by have := hd a (Nat.le_refl _); omega⟩
  · have : ∃ d : Nat, b2n (decide ((b : Int) < c)) = d ∧ d ≤ 1 := ⟨_, rfl, by unfold b2n; split <;> omega⟩
    obtain ⟨d, hd1, hd2⟩ := this
    have : ∃ f : Nat, b2n (decide (1 < IntKind.u64.wrap ((b : Int) - c))) = f ∧ f ≤ 1 := ⟨_, rfl, by unfold b2n; split <;> omega⟩
    obtain ⟨f, hf1, hf2⟩ := this
    rw [hd1, hf1]
    have e : IntKind.u64.wrap ((a : Int) - d) = ((a - d : Nat) : Int) := by rw [IntKind.wrap_u64]; omega
    rw [e, hcast]
    have h9 := hd (a - d) (Nat.sub_le _ _)
    obtain ⟨k, k1, k2, k3⟩ := or_le_succ ((a - d) / 2 ^ s) f (by omega) hf2
    exact ⟨k, k1, by omega⟩
theorem rnd_nat (u : Nat) (h : u < 9223372036854775808) : ∃ k : Nat, rnd u = k ∧ k ≤ (u + 2) / 4 := by
  obtain ⟨j, h1, h2⟩ := band_le (((u / 4 : Nat) : Int)) 1 (by decide)
  have h1' : bits .and .u64 ((u : Int) / 4) 1 = j := by
    rw [show ((u : Int) / 4) = ((u / 4 : Nat) : Int) from by omega]
    exact h1
  unfold rnd
  rw [h1', show ((u : Int) + 1) = ((u + 1 : Nat) : Int) from by omega, wrapu_nat _ (by omega), show (((u + 1 : Nat) : Int) + (j : Int)) = ((u + 1 + j : Nat) : Int) from by omega, wrapu_nat _ (by omega)]
  exact ⟨(u + 1 + j) / 4, by omega, by omega⟩
theorem half_nat (u : Nat) (h : u < 9223372036854775808) : ∃ k : Nat, half u = k ∧ k ≤ u / 2 + 1 := by
  obtain ⟨j, h1, h2⟩ := band_le (u : Int) 1 (by decide)
  unfold half
  rw [show ((1 : Nat) : Int) = 1 from rfl] at h1
  rw [h1, show ((u : Int) / 2) = ((u / 2 : Nat) : Int) from by omega]
  obtain ⟨k, k1, k2, k3⟩ := or_le_succ (u / 2) j (by omega) h2
  exact ⟨k, k1, k3⟩
theorem whole_nat (u : Nat) (h : u < 9223372036854775808) : whole u = u := by
  unfold whole
  rw [show (1 : Int) = ((1 : Nat) : Int) from rfl, bits_and_u64_nat u 1 (by omega) (by decide)]
  have h1 : u &&& 1 ≤ 1 := Nat.and_le_right
  rw [bits_or_u64_nat _ _ (by omega) (by omega)]
  congr 1
  apply Nat.eq_of_testBit_eq
  intro i
  rw [Nat.testBit_or, Nat.testBit_and]
  cases u.testBit i <;> simp
theorem rnd_half (u : Nat) (h : u ≤ 72053195991416834) : ∃ k : Nat, rnd (half u) = k ∧ k < 9007199254740992 := by
  obtain ⟨k, h1, h2⟩ := half_nat u (by omega)
  rw [h1]
  obtain ⟨j, h3, h4⟩ := rnd_nat k (by omega)
  exact ⟨j, h3, by omega⟩
theorem rnd_whole (u : Nat) (h : u < 36028797018963966) : ∃ k : Nat, rnd (whole u) = k ∧ k < 9007199254740992 := by
  rw [whole_nat u (by omega)]
  obtain ⟨j, h3, h4⟩ := rnd_nat u (by omega)
  exact ⟨j, h3, by omega⟩

/-- What parseFloat64 yields for a sign of its own. -/
def pfB (d : Nat) : Nat := Lib.bitLen d
def pfL (p : Int) : Int := p * 108853 / 32768
def pfM (d : Nat) (p : Int) : Int := min 1074 (53 - pfB d - pfL p)
def pfS (d : Nat) (p : Int) : Nat := (-(pfM d p - (64 - (pfB d : Int)) + pfL p + 3)).toNat
def pfX (d : Nat) : Nat := d * 2 ^ (64 - pfB d)
def pfU (d : Nat) (p : Int) : Int := uscaleI (pfX d) (p10h (p + 348).toNat) (p10l (p + 348).toNat) (pfS d p)
def pfP (d : Nat) (p : Int) : Nat × Value :=
  if 64 ≤ pfS d p then (0, .nilIface)
  else if 36028797018963966 ≤ pfU d p then (pkB (rnd (half (pfU d p))) (-(pfM d p - 1)), pkE (rnd (half (pfU d p))) (-(pfM d p - 1)))
  else (pkB (rnd (whole (pfU d p))) (-pfM d p), pkE (rnd (whole (pfU d p))) (-pfM d p))
def okV (r : Nat) (v : Value) : Prop := r ≤ infR ∧ (v = .nilIface → r < infR) ∧ (v = .nilIface ∨ v = .iface 162 (.int .i64 1))
theorem pfB_facts (d : Nat) (h0 : d ≠ 0) (h : d < 18446744073709551616) : 1 ≤ pfB d ∧ pfB d ≤ 64 ∧ 9223372036854775808 ≤ pfX d ∧ pfX d < 18446744073709551616 := by
  obtain ⟨h1, h2, h3⟩ := Lib.bitLenAux_bounds 64 d (by omega) h0
  unfold pfX pfB Lib.bitLen
  generalize Lib.bitLenAux 64 d = b at *
  have hb : b ≤ 64 := by
    rcases Nat.lt_or_ge 64 b with hb | hb
    · have : (2 : Nat) ^ 64 ≤ 2 ^ (b - 1) := Nat.pow_le_pow_right (by decide) (by omega)
      omega
    · exact hb
  have e1 : (2 : Nat) ^ (b - 1) * 2 ^ (64 - b) = 2 ^ 63 := by rw [← Nat.pow_add]; congr 1; omega
  have e2 : (2 : Nat) ^ b * 2 ^ (64 - b) = 2 ^ 64 := by rw [← Nat.pow_add]; congr 1; omega
  have g1 := Nat.mul_le_mul_right (2 ^ (64 - b)) h2
  have g2 := Nat.mul_lt_mul_of_pos_right h3 (Nat.two_pow_pos (64 - b))
  rw [e1] at g1
  rw [e2] at g2
  exact ⟨h1, hb, by omega, by omega⟩
theorem pf_ok (d : Nat) (p : Int) (hd0 : d ≠ 0) (hd : d < 18446744073709551616) (hp0 : -348 ≤ p) (hp1 : p ≤ 347) : okV (pfP d p).1 (pfP d p).2 := by
  obtain ⟨b1, b2, x1, x2⟩ := pfB_facts d hd0 hd
  have hm : pfM d p ≤ 1074 := by unfold pfM; omega
  have hs : 8 ≤ pfS d p := by unfold pfS pfM; omega
  obtain ⟨u, hu, hu1⟩ := us_bound (pfX d) (p + 348).toNat (pfS d p) (by omega) x1 x2 hs
  have hu' : pfU d p = u := hu
  unfold pfP
  split
  · exact ⟨Nat.zero_le _, fun _ => by decide, .inl rfl⟩
  · rw [hu']
    split
    · obtain ⟨k, k1, k2⟩ := rnd_half u hu1
      rw [k1]
      exact (pk_sign false k k2 _ (by omega)).2.2
    · obtain ⟨k, k1, k2⟩ := rnd_whole u (by omega)
      rw [k1]
      exact (pk_sign false k k2 _ (by omega)).2.2

structure PowAt (w : World) : Prop where
  lt : 14 < w.heap.size
  tab : ∀ i, i < 696 → w.cell? ⟨14, i * 2, none⟩ = some (.int .u64 (p10h i)) ∧ w.cell? ⟨14, i * 2 + 1, none⟩ = some (.int .u64 (p10l i))
theorem pf_any (d : Nat) (p : Int) (ng : Bool) (hd0 : d ≠ 0) (hd : d < 18446744073709551616) (hp0 : -348 ≤ p) (hp1 : p ≤ 347) (w : World) (hT : PowAt w) :
    Calls Tryz.prog 134 #[.int .u64 d, .int .i64 p, .int .u64 (sgw ng)] w fun e w' => e = .returned (.tuple #[.float .f64 (sg ng (pfP d p).1), (pfP d p).2]) ∧ Below w.heap.size w w' := by
  obtain ⟨b1, b2, x1, x2⟩ := pfB_facts d hd0 hd
  have hm : pfM d p ≤ 1074 := by unfold pfM; omega
  have hs : 8 ≤ pfS d p := by unfold pfS pfM; omega
  obtain ⟨i, hi⟩ : ∃ i : Nat, p + 348 = i := ⟨(p + 348).toNat, by omega⟩
  have hi2 : i < 696 := by omega
  obtain ⟨t0, t1, t2⟩ := p10_at i hi2
  obtain ⟨u, hu, hu1⟩ := us_bound (pfX d) i (pfS d p) hi2 x1 x2 hs
  have hu' : pfU d p = u := by
    unfold pfU
    rw [hi]
    exact hu
  have hX : IntKind.u64.wrap ((d : Int) * 2 ^ (64 - pfB d)) = ((pfX d : Nat) : Int) := by
    rw [show ((d : Int) * 2 ^ (64 - pfB d)) = ((pfX d : Nat) : Int) from by unfold pfX; simp]
    exact wrapu_nat _ x2
  refine parse64_a d p (sgw ng) i hi hi2 hd (pfB d) rfl b1 b2 (pfL p) rfl (pfX d) hX x2 (by omega) t2 (pfS d p) (pfM d p) ?_ w hT.lt (hT.tab i hi2) u hu (by omega) (by omega) _ _ ?_ ?_
  · by_cases h : 53 - (pfB d : Int) - pfL p < 1074
    · left
      have e : pfM d p = 53 - pfB d - pfL p := by unfold pfM; omega
      exact ⟨e, by unfold pfS; rw [e]; omega, by omega⟩
    · right
      have e : pfM d p = 1074 := by unfold pfM; omega
      exact ⟨e, by unfold pfS; rw [e]; omega, by omega⟩
  · intro h64
    unfold pfP
    rw [if_neg (by omega), hu']
    by_cases h : 36028797018963966 ≤ (u : Int)
    · left
      rw [if_pos h]
      obtain ⟨k, k1, k2⟩ := rnd_half u hu1
      rw [k1]
      obtain ⟨q1, q2, -⟩ := pk_sign ng k k2 (-(pfM d p - 1)) (by omega)
      exact ⟨h, q1.symm, q2.symm⟩
    · right
      rw [if_neg h]
      obtain ⟨k, k1, k2⟩ := rnd_whole u (by omega)
      rw [k1]
      obtain ⟨q1, q2, -⟩ := pk_sign ng k k2 (-pfM d p) (by omega)
      exact ⟨by omega, q1.symm, q2.symm⟩
  · intro h64
    unfold pfP
    rw [if_pos h64]
    cases ng <;> exact ⟨by decide, rfl⟩
/-- What floatBits yields. -/
theorem fb6_le (m e : Int) (h0 : -1022 ≤ e) (h1 : e ≤ 1023) : -1023 ≤ (fb6 m e).2.1 ∧ (fb6 m e).2.1 ≤ 1023 ∧ (fb6 m e).2.2 = false := by
  unfold fb6
  split
  · exact ⟨by dsimp only; omega, by dsimp only; omega, rfl⟩
  · exact ⟨by dsimp only; omega, h1, rfl⟩
def fbOk (x : Int × Int × Bool) : Prop := -1023 ≤ x.2.1 ∧ (x.2.2 = false ∧ x.2.1 ≤ 1023 ∨ x.2.2 = true ∧ x.1 = 0 ∧ x.2.1 = 1024)
theorem fb5_ok (m e : Int) (h0 : -1022 ≤ e) (h1 : e ≤ 1023) : fbOk (fb5 m e) := by
  unfold fb5
  split
  · split
    · exact ⟨by decide, .inr ⟨rfl, rfl, rfl⟩⟩
    · obtain ⟨a, b, c⟩ := fb6_le 4503599627370496 (e + 1) (by omega) (by omega)
      exact ⟨a, .inl ⟨c, b⟩⟩
  · obtain ⟨a, b, c⟩ := fb6_le m e (by omega) (by omega)
    exact ⟨a, .inl ⟨c, b⟩⟩
theorem fb4_ok (s : St) (e : Int) (h0 : -1022 ≤ e) : fbOk (fb4 s e) := by
  unfold fb4
  split
  · exact ⟨by decide, .inr ⟨rfl, rfl, rfl⟩⟩
  · exact fb5_ok _ _ h0 (by omega)
theorem fbR_ok (s : St) : fbOk (fbR s) := by
  unfold fbR
  split
  · exact ⟨by decide, .inl ⟨rfl, by decide⟩⟩
  · split
    · exact ⟨by decide, .inr ⟨rfl, rfl, rfl⟩⟩
    · split
      · exact ⟨by decide, .inl ⟨rfl, by decide⟩⟩
      · unfold fb2 fb3
        split
        · exact fb4_ok _ _ (by decide)
        · exact fb4_ok _ _ (by omega)
def fbP (s : St) : Nat × Value := ((asm (fbR s).1 (fbR s).2.1).toNat, if (fbR s).2.2 then .iface 162 (.int .i64 1) else .nilIface)
theorem fbP_ok (s : St) : okV (fbP s).1 (fbP s).2 := by
  obtain ⟨h1, h2⟩ := fbR_ok s
  unfold fbP
  generalize fbR s = x at *
  obtain ⟨m, e, o⟩ := x
  dsimp only at *
  rcases h2 with ⟨rfl, h3⟩ | ⟨rfl, rfl, rfl⟩
  · have := asm_fin m e h1 h3
    exact ⟨Nat.le_of_lt this, fun _ => this, .inl rfl⟩
  · refine ⟨by decide, ?_, Or.inr rfl⟩
    intro h
    cases h
theorem fbP_sign (s : St) (ng : Bool) : (asmS ng (fbR s).1 (fbR s).2.1).toNat = sg ng (fbP s).1 ∧ 0 ≤ asmS ng (fbR s).1 (fbR s).2.1 := by
  obtain ⟨h1, h2⟩ := fbR_ok s
  exact asm_sign ng _ _ h1 (by rcases h2 with ⟨-, h⟩ | ⟨-, -, h⟩ <;> omega)
end Go.Proofs.YthfjakbpeclfcaaGreatDoor
