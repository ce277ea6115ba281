/-
  Plain laws on doubles: the sign stands apart from the size; what stays finite.
  Plain laws on doubles: times -1, NaN and infinity, equality of two of one sign.
-/
import Derived.WalkKit
import Derived.Laws.FloatArith
namespace Go.Proofs.YthfjakbpeclfcaaGreatDoor
open Ieee Go

theorem sw_eq : double.signWeight = 9223372036854775808 := by
  unfold Format.signWeight
  show 2 ^ (11 + 52) = 9223372036854775808
  rfl
def infR : Nat := 9218868437227405312
theorem infR_eq : double.infRung = infR := by
  unfold Format.infRung Format.binade infR
  show (2 ^ 11 - 1) * 2 ^ 52 = 9218868437227405312
  rfl
theorem infR_lt {r : Nat} (h : r < infR) : r < 9223372036854775808 := Nat.lt_trans h (by unfold infR; decide)
def sg (ng : Bool) (r : Nat) : Nat := if ng then 9223372036854775808 + r else r
def rung (mag : Nat) (place : Int) : Nat := double.nearest false mag place
theorem word_sg (ng : Bool) (r : Nat) : double.word ng r = sg ng r := by
  unfold Format.word sg
  rw [sw_eq]
theorem sg_false (r : Nat) : sg false r = r := by
  unfold sg
  simp only [Bool.false_eq_true, if_false]
theorem cut_even (ng : Bool) (n d : Nat) : Toward.even.cut ng n d = Toward.even.cut false n d := by
  unfold Toward.cut
  rfl
theorem nearest_sg (ng : Bool) (mag : Nat) (p : Int) : double.nearest ng mag p = sg ng (rung mag p) := by
  unfold rung Format.nearest
  simp only [word_sg, sg_false]
  by_cases h : mag = 0
  · rw [if_pos h, if_pos h]
  · rw [if_neg h, if_neg h, cut_even]
theorem rung_le (mag : Nat) (p : Int) : rung mag p ≤ infR := by
  unfold rung Format.nearest
  simp only [word_sg, infR_eq, sg_false]
  generalize infR = t
  split
  · exact Nat.zero_le _
  · exact Nat.min_le_right _ _
def withNeg (ng : Bool) : Datum → Datum
  | .number _ m e => .number ng m e
  | .infinity _ => .infinity ng
  | .nan _ t => .nan ng t
theorem read_sg (ng : Bool) (r : Nat) (h : r < 9223372036854775808) : double.read (sg ng r) = withNeg ng (double.read r) := by
  have e1 : sg ng r / double.signWeight % 2 = ng.toNat := by
    rw [sw_eq]
    cases ng <;> simp [sg] <;> omega
  have e2 : sg ng r % double.signWeight = r := by
    rw [sw_eq]
    cases ng <;> simp [sg] <;> omega
  have e3 : r % double.signWeight = r := by rw [sw_eq]; exact Nat.mod_eq_of_lt h
  have e4 : r / double.signWeight % 2 = 0 := by
    rw [sw_eq]
    omega
  unfold Format.read
  simp only [e1, e2, e3, e4]
  have hb : (ng.toNat == 1) = ng := by cases ng <;> rfl
  rw [hb]
  split
  · rfl
  · split
    · rfl
    · split <;> rfl
theorem read_small (r : Nat) (h : r < infR) : ∃ m e, double.read r = .number false m e := by
  have e3 : r % double.signWeight = r := by rw [sw_eq]; exact Nat.mod_eq_of_lt (infR_lt h)
  have e4 : r / double.signWeight % 2 = 0 := by
    rw [sw_eq]
    have := infR_lt h
    omega
  have hb : ((0 : Nat) == 1) = false := by decide
  unfold Format.read
  simp only [e3, e4, infR_eq, hb]
  by_cases h1 : r < double.binade
  · rw [if_pos h1]
    exact ⟨_, _, rfl⟩
  · rw [if_neg h1, if_pos h]
    exact ⟨_, _, rfl⟩
theorem neg_sg (r : Nat) (h : r < 9223372036854775808) : Go.Op.negFloat .f64 r = sg true r := by
  show r ^^^ 9223372036854775808 = 9223372036854775808 + r
  apply Nat.eq_of_testBit_eq
  intro i
  have e : (9223372036854775808 : Nat) = 2 ^ 63 := by decide
  rw [Nat.testBit_xor, e, Nat.testBit_two_pow]
  by_cases h1 : i = 63
  · subst h1
    rw [Nat.testBit_two_pow_add_eq]
    simp
  · by_cases h2 : i < 63
    · rw [Nat.testBit_two_pow_add_gt h2]
      have : ¬ 63 = i := by omega
      simp [this]
    · have hlt : r < 2 ^ i := Nat.lt_of_lt_of_le (by omega : r < 2 ^ 63) (Nat.pow_le_pow_right (by decide) (by omega))
      have hlt2 : 2 ^ 63 + r < 2 ^ i := by
        have : 2 ^ 64 ≤ 2 ^ i := Nat.pow_le_pow_right (by decide) (by omega)
        omega
      rw [Nat.testBit_lt_two_pow hlt, Nat.testBit_lt_two_pow hlt2]
      have : ¬ 63 = i := by omega
      simp [this]

def mulR (r p : Nat) : Nat := (double.mul r p).getD 0
def divR (r p : Nat) : Nat := (double.div r p).getD 0
theorem mul_sg (ng : Bool) (r p n : Nat) (j : Int) (hr : r < infR) (hp : double.read p = .number false n j) :
    double.mul (sg ng r) p = some (sg ng (mulR r p)) ∧ ∃ m i, double.read r = .number false m i ∧ mulR r p = rung (m * n) (i + j) := by
  obtain ⟨m, i, hm⟩ := read_small r hr
  have h1 : mulR r p = rung (m * n) (i + j) := by
    unfold mulR Format.mul
    rw [hm, hp]
    rfl
  refine ⟨?_, m, i, hm, h1⟩
  rw [h1]
  unfold Format.mul
  rw [read_sg ng r (infR_lt hr), hm, hp]
  show some (double.nearest (ng ^^ false) (m * n) (i + j)) = _
  rw [nearest_sg, Bool.xor_false]
theorem div_sg (ng : Bool) (r p n : Nat) (j : Int) (hr : r < infR) (hp : double.read p = .number false n j) (hn : n ≠ 0) :
    double.div (sg ng r) p = some (sg ng (divR r p)) ∧ ∃ m i, double.read r = .number false m i ∧
      divR r p = rung (2 * ((m <<< (54 + n.log2 - m.log2)) / n) + ((m <<< (54 + n.log2 - m.log2)) % n != 0).toNat) (i - j - (54 + n.log2 - m.log2 : Nat) - 1) := by
  obtain ⟨m, i, hm⟩ := read_small r hr
  have hq : ∀ s : Bool, (Datum.number s m i).quotient (double.fractionBits + 2) (.number false n j) =
      some (.number (s ^^ false) (2 * ((m <<< (54 + n.log2 - m.log2)) / n) + ((m <<< (54 + n.log2 - m.log2)) % n != 0).toNat) (i - j - (54 + n.log2 - m.log2 : Nat) - 1)) := by
    intro s
    unfold Datum.quotient
    simp only [hn, if_false]
    rfl
  have h1 : divR r p = rung (2 * ((m <<< (54 + n.log2 - m.log2)) / n) + ((m <<< (54 + n.log2 - m.log2)) % n != 0).toNat) (i - j - (54 + n.log2 - m.log2 : Nat) - 1) := by
    unfold divR Format.div
    rw [hm, hp, hq]
    rfl
  refine ⟨?_, m, i, hm, h1⟩
  rw [h1]
  unfold Format.div
  rw [read_sg ng r (infR_lt hr), hm, hp]
  show Option.map double.write ((Datum.number ng m i).quotient (double.fractionBits + 2) (.number false n j)) = _
  rw [hq]
  show some (double.nearest (ng ^^ false) _ _) = _
  rw [nearest_sg, Bool.xor_false]
def tens : List Nat := [4607182418800017408, 4621819117588971520, 4636737291354636288, 4652007308841189376, 4666723172467343360, 4681608360884174848, 4696837146684686336, 4711630319722168320, 4726483295884279808, 4741671816366391296, 4756540486875873280, 4771362005757984768, 4786511204640096256, 4801453603149578240, 4816244402031689728, 4831355200913801216, 4846369599423283200, 4861130398305394688, 4876203697187506176, 4891288408196988160, 4906019910204099648, 4921056587992461136, 4936209963552724370]
def tenOk (k : Nat) : Bool := match double.read (tens.getD k 0) with
  | .number false n j => decide (n ≠ 0) && decide (j + n.log2 ≤ 74) && decide (0 ≤ j + n.log2)
  | _ => false
theorem tenOk_all : (List.range 23).all tenOk = true := by decide +kernel
theorem ten_facts (k : Nat) (h : k < 23) : ∃ n j, double.read (tens.getD k 0) = .number false n j ∧ n ≠ 0 ∧ j + n.log2 ≤ 74 ∧ 0 ≤ j + n.log2 := by
  have := List.all_eq_true.1 tenOk_all k (List.mem_range.2 h)
  unfold tenOk at this
  split at this
  · rename_i n j hr
    simp only [Bool.and_eq_true, decide_eq_true_eq] at this
    exact ⟨n, j, hr, this.1.1, this.1.2, this.2⟩
  · exact absurd this (by decide)

/-! What stays finite. -/
theorem log2_lt (n : Nat) : n < 2 ^ (n.log2 + 1) := by
  exact Nat.lt_log2_self
theorem cut_le (n d b : Nat) (h : n < 2 ^ (b + d)) : Toward.even.cut false n d ≤ 2 ^ b := by
  have hb : 0 < 2 ^ b := Nat.pow_pos (by decide)
  unfold Toward.cut
  by_cases hd : d ≤ n.log2 + 2
  · have e : 1 <<< min d (n.log2 + 2) = 2 ^ d := by rw [Nat.min_eq_left hd, Nat.shiftLeft_eq, Nat.one_mul]
    simp only [e]
    have h1 : n / 2 ^ d < 2 ^ b := Nat.div_lt_of_lt_mul (by rw [← Nat.pow_add, Nat.add_comm]; exact h)
    have h2 : ∀ c : Bool, c.toNat ≤ 1 := by intro c; cases c <;> decide
    have h3 := h2 (decide (2 ^ d < 2 * (n % 2 ^ d)) || 2 ^ d == 2 * (n % 2 ^ d) && n / 2 ^ d % 2 == 1)
    omega
  · have e : 1 <<< min d (n.log2 + 2) = 2 ^ (n.log2 + 2) := by rw [Nat.min_eq_right (by omega), Nat.shiftLeft_eq, Nat.one_mul]
    simp only [e]
    have h0 : n < 2 ^ (n.log2 + 2) := Nat.lt_trans (log2_lt n) (Nat.pow_lt_pow_right (by decide) (by omega))
    rw [Nat.div_eq_of_lt h0]
    have h2 : ∀ c : Bool, c.toNat ≤ 1 := by intro c; cases c <;> decide
    have h3 := h2 (decide (2 ^ (n.log2 + 2) < 2 * (n % 2 ^ (n.log2 + 2))) || 2 ^ (n.log2 + 2) == 2 * (n % 2 ^ (n.log2 + 2)) && 0 % 2 == 1)
    omega
theorem rung_fin (mag : Nat) (p : Int) (E : Int) (h0 : mag ≠ 0) (h : p + mag.log2 ≤ E) (hE : -1022 ≤ E) : rung mag p ≤ (E + 1022).toNat * 4503599627370496 + 9007199254740992 := by
  have hlp : double.leastPlace = -1074 := by
    unfold Format.leastPlace
    show (2 : Int) - 2 ^ (11 - 1) - 52 = -1074
    rfl
  have hfb : double.fractionBits = 52 := rfl
  have hbi : double.binade = 4503599627370496 := by
    unfold Format.binade
    show 2 ^ 52 = 4503599627370496
    rfl
  unfold rung Format.nearest
  simp only [word_sg, sg_false, hlp, hfb, hbi]
  rw [if_neg h0]
  refine Nat.le_trans (Nat.min_le_left _ _) ?_
  have hlog := log2_lt mag
  have hk : Toward.even.cut false (mag <<< (p - max (p + (mag.log2 : Int) - ((52 : Nat) : Int)) (-1074)).toNat) (max (p + (mag.log2 : Int) - ((52 : Nat) : Int)) (-1074) - p).toNat ≤ 2 ^ 53 := by
    apply cut_le
    rw [Nat.shiftLeft_eq]
    have ht : p + (mag.log2 : Int) - 52 ≤ max (p + (mag.log2 : Int) - ((52 : Nat) : Int)) (-1074) := Int.le_max_left _ _
    generalize max (p + (mag.log2 : Int) - ((52 : Nat) : Int)) (-1074) = t at *
    have hle : mag.log2 + 1 + (p - t).toNat ≤ 53 + (t - p).toNat := by omega
    have h1 : mag * 2 ^ (p - t).toNat < 2 ^ (mag.log2 + 1) * 2 ^ (p - t).toNat := Nat.mul_lt_mul_of_pos_right hlog (Nat.pow_pos (by decide))
    rw [← Nat.pow_add] at h1
    exact Nat.lt_of_lt_of_le h1 (Nat.pow_le_pow_right (by decide) hle)
  have hm : (max (p + (mag.log2 : Int) - ((52 : Nat) : Int)) (-1074) - -1074).toNat ≤ (E + 1022).toNat := by omega
  have h53 : (2 : Nat) ^ 53 = 9007199254740992 := by decide
  rw [h53] at hk
  exact Nat.add_le_add (Nat.mul_le_mul_right _ hm) hk
theorem rung_zero (p : Int) : rung 0 p = 0 := by
  unfold rung Format.nearest
  rw [if_pos rfl, word_sg, sg_false]
theorem log2_le {n k : Nat} (h0 : n ≠ 0) (h : n < 2 ^ (k + 1)) : n.log2 ≤ k := by
  have := (Nat.log2_lt h0).2 h
  omega
theorem read_exp (r m a : Nat) (i : Int) (hr : r < infR) (h : double.read r = .number false m i) (ha : r < (a + 1) * 4503599627370496) (hm : m ≠ 0) : i + m.log2 ≤ (a : Int) - 1023 := by
  have hlp : double.leastPlace = -1074 := by
    unfold Format.leastPlace
    show (2 : Int) - 2 ^ (11 - 1) - 52 = -1074
    rfl
  have hbi : double.binade = 4503599627370496 := by
    unfold Format.binade
    show 2 ^ 52 = 4503599627370496
    rfl
  have e3 : r % double.signWeight = r := by rw [sw_eq]; exact Nat.mod_eq_of_lt (infR_lt hr)
  have p52 : (2 : Nat) ^ 52 = 4503599627370496 := by decide
  have p53 : (2 : Nat) ^ 53 = 9007199254740992 := by decide
  unfold Format.read at h
  simp only [e3, infR_eq, hlp, hbi] at h
  by_cases h1 : r < 4503599627370496
  · rw [if_pos h1] at h
    injection h with _ h2 h3
    subst h2 h3
    have : r.log2 ≤ 51 := log2_le hm (by rw [p52]; exact h1)
    omega
  · rw [if_neg h1, if_pos hr] at h
    injection h with _ h2 h3
    have : m.log2 ≤ 52 := log2_le hm (by rw [p53]; omega)
    omega
theorem mul_fin (r p n a b : Nat) (j : Int) (hr : r < infR) (hp : double.read p = .number false n j) (ha : r < (a + 1) * 4503599627370496) (hb : j + n.log2 ≤ b) :
    mulR r p < (a + b + 3) * 4503599627370496 := by
  obtain ⟨-, m, i, hm, e⟩ := mul_sg false r p n j hr hp
  rw [e]
  by_cases h0 : m * n = 0
  · rw [h0, rung_zero]
    omega
  · have hm0 : m ≠ 0 := fun h => h0 (by rw [h, Nat.zero_mul])
    have hn0 : n ≠ 0 := fun h => h0 (by rw [h, Nat.mul_zero])
    have h1 := read_exp r m a i hr hm ha hm0
    have h2 : (m * n).log2 ≤ m.log2 + n.log2 + 1 := by
      apply log2_le h0
      have h3 := Nat.mul_lt_mul'' (log2_lt m) (log2_lt n)
      rw [← Nat.pow_add] at h3
      rw [show m.log2 + n.log2 + 1 + 1 = m.log2 + 1 + (n.log2 + 1) from by omega]
      exact h3
    have h4 := rung_fin (m * n) (i + j) ((a : Int) + b - 1022) h0 (by omega) (by omega)
    have h5 : ((a : Int) + b - 1022 + 1022).toNat = a + b := by omega
    rw [h5] at h4
    omega
theorem div_fin (r p n a : Nat) (j : Int) (hr : r < infR) (hp : double.read p = .number false n j) (hn : n ≠ 0) (ha : r < (a + 1) * 4503599627370496) (hb : 0 ≤ j + n.log2) :
    divR r p < (a + 5) * 4503599627370496 := by
  obtain ⟨-, m, i, hm, e⟩ := div_sg false r p n j hr hp hn
  rw [e]
  generalize hq : 2 * ((m <<< (54 + n.log2 - m.log2)) / n) + ((m <<< (54 + n.log2 - m.log2)) % n != 0).toNat = q
  by_cases h0 : q = 0
  · rw [h0, rung_zero]
    omega
  · have hm0 : m ≠ 0 := by
      rintro rfl
      apply h0
      rw [← hq]
      simp
    have h1 := read_exp r m a i hr hm ha hm0
    have h2 : q.log2 ≤ m.log2 + (54 + n.log2 - m.log2) - n.log2 + 2 := by
      apply log2_le h0
      have hn0 : 0 < n := Nat.pos_of_ne_zero hn
      have hd1 : m <<< (54 + n.log2 - m.log2) < 2 ^ (m.log2 + 1 + (54 + n.log2 - m.log2)) := by
        rw [Nat.shiftLeft_eq, Nat.pow_add]
        exact Nat.mul_lt_mul_of_pos_right (log2_lt m) (Nat.pow_pos (by decide))
      have hd2 : 2 ^ n.log2 ≤ n := Nat.log2_self_le hn
      generalize hmore : 54 + n.log2 - m.log2 = more at *
      have hge : n.log2 ≤ m.log2 + more := by omega
      have hd3 : m <<< more / n < 2 ^ (m.log2 + 1 + more - n.log2) := by
        apply Nat.div_lt_of_lt_mul
        refine Nat.lt_of_lt_of_le hd1 ?_
        have e : m.log2 + 1 + more = n.log2 + (m.log2 + 1 + more - n.log2) := by omega
        rw [e, Nat.pow_add]
        have e2 : n.log2 + (m.log2 + 1 + more - n.log2) - n.log2 = m.log2 + 1 + more - n.log2 := by omega
        rw [e2]
        exact Nat.mul_le_mul_right _ hd2
      have e3 : m.log2 + more - n.log2 + 2 + 1 = (m.log2 + 1 + more - n.log2) + 1 + 1 := by omega
      rw [e3, Nat.pow_succ, Nat.pow_succ]
      have h2b : ∀ c : Bool, c.toNat ≤ 1 := by intro c; cases c <;> decide
      have h3b := h2b (m <<< more % n != 0)
      omega
    have h4 := rung_fin q (i - j - (54 + n.log2 - m.log2 : Nat) - 1) ((a : Int) - 1021) h0 (by omega) (by omega)
    have h5 : ((a : Int) - 1021 + 1022).toNat = a + 1 := by omega
    rw [h5] at h4
    omega

/-! Order against a positive number and its opposite. -/
def big15 (r : Nat) : Bool := double.order r 4831355200913801216 == some .gt
theorem r15 : ∃ n j, double.read 4831355200913801216 = .number false n j ∧ double.read 14054727237768577024 = .number true n j := ⟨_, _, rfl, rfl⟩
theorem signed_neg (m u : Nat) : signed true m u = - signed false m u := rfl
theorem signed_pos (m u : Nat) : 0 ≤ signed false m u := by
  unfold signed
  rw [if_neg Bool.false_ne_true]
  exact Int.natCast_nonneg _
theorem cmp_neg (a b : Int) : compare (-a) (-b) = compare b a := by
  simp only [compare, compareOfLessAndEq]
  by_cases h : a = b
  · subst h; simp
  · by_cases h2 : a < b
    · rw [if_neg (by omega), if_neg (by omega), if_neg (by omega), if_neg (by omega)]
    · rw [if_pos (by omega), if_pos (by omega)]
theorem cmp_nlt {a b : Int} (h : b ≤ a) : (compare a b == Ordering.lt) = false := by
  simp only [compare, compareOfLessAndEq]
  rw [if_neg (by omega)]
  split <;> rfl
theorem cmp_ngt {a b : Int} (h : a ≤ b) : (compare a b == Ordering.gt) = false := by
  simp only [compare, compareOfLessAndEq]
  by_cases h2 : a < b
  · rw [if_pos h2]; rfl
  · rw [if_neg h2, if_pos (by omega)]; rfl
theorem cmp_swap (a b : Int) : (compare b a == Ordering.lt) = (compare a b == Ordering.gt) := by
  simp only [compare, compareOfLessAndEq]
  by_cases h2 : a < b
  · rw [if_neg (by omega), if_neg (by omega), if_pos h2]; rfl
  · by_cases h : a = b
    · subst h; simp
    · rw [if_pos (by omega), if_neg h2, if_neg h]; rfl
theorem order15 (ng : Bool) (r : Nat) (hr : r < infR) :
    (double.order (sg ng r) 4831355200913801216 == some .gt) = (!ng && big15 r) ∧ (double.order (sg ng r) 14054727237768577024 == some .lt) = (ng && big15 r) := by
  obtain ⟨n, j, h1, h2⟩ := r15
  obtain ⟨m, i, hm⟩ := read_small r hr
  unfold big15 Format.order
  rw [read_sg ng r (infR_lt hr), hm, h1, h2]
  unfold withNeg Datum.order
  simp only [Option.some_beq_some]
  cases ng
  · refine ⟨by simp, ?_⟩
    simp only [Bool.false_and]
    apply cmp_nlt
    rw [signed_neg]
    have := signed_pos m (i - min i j).toNat
    have := signed_pos n (j - min i j).toNat
    omega
  · constructor
    · simp only [Bool.not_true, Bool.false_and]
      apply cmp_ngt
      rw [signed_neg]
      have := signed_pos m (i - min i j).toNat
      have := signed_pos n (j - min i j).toNat
      omega
    · rw [signed_neg, signed_neg, cmp_neg, cmp_swap]
      simp
end Go.Proofs.YthfjakbpeclfcaaGreatDoor

namespace Go.Proofs.YthfjakbpeclfcaaGreatDoor
open Ieee Go

theorem signed_eq (ng : Bool) (m k n l : Nat) : (some (compare (signed ng m k) (signed ng n l)) == some Ordering.eq) = (some (compare (signed false m k) (signed false n l)) == some Ordering.eq) := by
  have h : ∀ x y : Int, (some (compare x y) == some Ordering.eq) = decide (x = y) := by
    intro x y
    by_cases hxy : x = y
    · subst hxy
      have : compare x x = .eq := by simp
      rw [this]
      simp
    · have : compare x y ≠ .eq := by
        simp only [compare, compareOfLessAndEq]
        split <;> simp
      simp [hxy, this]
  rw [h, h]
  cases ng
  · rfl
  · unfold signed
    congr 1
    simp
theorem order_sg (ng : Bool) (a b : Nat) (ha : a < 9223372036854775808) (hb : b < 9223372036854775808) :
    (double.order (sg ng a) (sg ng b) == some .eq) = (double.order a b == some .eq) := by
  have e1 : double.read a = withNeg false (double.read a) := by
    have := read_sg false a ha
    rw [sg_false] at this
    exact this
  have e2 : double.read b = withNeg false (double.read b) := by
    have := read_sg false b hb
    rw [sg_false] at this
    exact this
  unfold Format.order
  rw [read_sg ng a ha, read_sg ng b hb, e1, e2]
  generalize double.read a = x
  generalize double.read b = y
  cases x <;> cases y <;> first | exact signed_eq _ _ _ _ _ | (cases ng <;> rfl)
theorem read_cases (r : Nat) (h : r < infR) : ∃ m i, double.read r = .number false m i ∧
    ((r < 4503599627370496 ∧ m = r ∧ i = -1074) ∨ (∃ q t, r = 4503599627370496 * (q + 1) + t ∧ t < 4503599627370496 ∧ q < 2046 ∧ m = 4503599627370496 + t ∧ i = -1074 + (q : Int))) := by
  have e3 : r % double.signWeight = r := by rw [sw_eq]; exact Nat.mod_eq_of_lt (infR_lt h)
  have e4 : r / double.signWeight % 2 = 0 := by
    rw [sw_eq]
    have := infR_lt h
    omega
  have hb : ((0 : Nat) == 1) = false := by decide
  have hbin : double.binade = 4503599627370496 := by decide
  have hlp : double.leastPlace = -1074 := by decide
  unfold Format.read
  simp only [e3, e4, infR_eq, hb, hbin, hlp]
  by_cases h1 : r < 4503599627370496
  · rw [if_pos h1]
    exact ⟨_, _, rfl, .inl ⟨h1, rfl, rfl⟩⟩
  · rw [if_neg h1, if_pos h]
    unfold infR at h
    refine ⟨_, _, rfl, .inr ⟨r / 4503599627370496 - 1, r % 4503599627370496, by omega, by omega, by omega, rfl, rfl⟩⟩
theorem cut_exact (m : Nat) (hm : m ≠ 0) : Toward.even.cut false (m * 4503599627370496) 52 = m := by
  have hl : 52 ≤ (m * 4503599627370496).log2 + 2 := by
    have : 52 ≤ (m * 4503599627370496).log2 := by
      rw [Nat.le_log2 (by omega)]
      omega
    omega
  have e : min 52 ((m * 4503599627370496).log2 + 2) = 52 := Nat.min_eq_left hl
  unfold Toward.cut
  simp only [e]
  rw [show (1 <<< 52 : Nat) = 4503599627370496 from by decide, Nat.mul_div_cancel _ (by decide), Nat.mul_mod_left]
  simp
theorem rung_exact (r m : Nat) (i : Int) (h : r < infR) (hr : double.read r = .number false m i) : rung (m * 4503599627370496) (i - 52) = r := by
  obtain ⟨m', i', h1, h2⟩ := read_cases r h
  rw [h1] at hr
  injection hr with _ hm hi
  subst hm hi
  have hbin : double.binade = 4503599627370496 := by decide
  have hlp : double.leastPlace = -1074 := by decide
  have hfb : double.fractionBits = 52 := rfl
  unfold rung Format.nearest
  simp only [word_sg, sg_false, infR_eq, hbin, hlp, hfb]
  by_cases hm : m' = 0
  · subst hm
    rw [if_pos (by simp)]
    rcases h2 with ⟨-, h3, -⟩ | ⟨q, t, -, -, -, h3, -⟩ <;> omega
  · rw [if_neg (by omega)]
    have hlast : max (i' - 52 + ((m' * 4503599627370496).log2 : Nat) - (52 : Nat)) (-1074) = i' := by
      have hl0 : m' * 4503599627370496 ≠ 0 := by omega
      rcases h2 with ⟨h3, h4, h5⟩ | ⟨q, t, h3, h4, h5, h6, h7⟩
      · have : (m' * 4503599627370496).log2 < 104 := by
          rw [Nat.log2_lt hl0]
          omega
        omega
      · have a1 : (m' * 4503599627370496).log2 < 105 := by
          rw [Nat.log2_lt hl0]
          omega
        have a2 : 104 ≤ (m' * 4503599627370496).log2 := by
          rw [Nat.le_log2 hl0]
          omega
        omega
    rw [hlast]
    have e1 : (i' - 52 - i').toNat = 0 := by omega
    have e2 : (i' - (i' - 52)).toNat = 52 := by omega
    rw [e1, e2, Nat.shiftLeft_zero, cut_exact m' hm]
    rcases h2 with ⟨h3, h4, h5⟩ | ⟨q, t, h3, h4, h5, h6, h7⟩
    · rw [Nat.min_eq_left] <;> omega
    · rw [Nat.min_eq_left] <;> omega
theorem read_m1 : double.read 13830554455654793216 = .number true 4503599627370496 (-52) := by decide +kernel
theorem mul_m1 (r : Nat) (h : r < infR) : double.mul r 13830554455654793216 = some (sg true r) := by
  obtain ⟨m, i, h1, -⟩ := read_cases r h
  unfold Format.mul
  rw [h1, read_m1]
  show some (double.nearest (false ^^ true) (m * 4503599627370496) (i + -52)) = _
  rw [nearest_sg, show i + -52 = i - 52 from by omega, rung_exact r m i h h1]
  rfl
theorem cmp_self (x : Int) : compare x x = .eq := by simp
theorem order_self (r : Nat) (h : r < infR) : double.order r r = some .eq := by
  obtain ⟨m, i, h1, -⟩ := read_cases r h
  unfold Format.order
  rw [h1]
  unfold Datum.order
  simp only [cmp_self]
theorem cmp_le {x y : Int} (h : x ≤ y) : compare x y ≠ .gt := by
  simp only [compare, compareOfLessAndEq]
  split
  · simp
  · split
    · simp
    · omega
theorem cmp_ge {x y : Int} (h : y ≤ x) : compare x y ≠ .lt := by
  simp only [compare, compareOfLessAndEq]
  split
  · omega
  · split <;> simp
theorem read_max : double.read 9218868437227405311 = .number false 9007199254740991 971 := by decide +kernel
theorem read_nmax : double.read 18442240474082181119 = .number true 9007199254740991 971 := by decide +kernel
theorem order_max (r : Nat) (h : r < infR) : double.order r 9218868437227405311 ≠ some .gt ∧ double.order r 18442240474082181119 ≠ some .lt := by
  obtain ⟨m, i, h1, h2⟩ := read_cases r h
  have hm : m ≤ 9007199254740991 ∧ i ≤ 971 := by
    rcases h2 with ⟨h3, h4, h5⟩ | ⟨q, t, h3, h4, h5, h6, h7⟩ <;> omega
  have hmin : min i 971 = i := by omega
  unfold Format.order
  rw [h1, read_max, read_nmax]
  unfold Datum.order
  simp only [hmin, Int.sub_self, ne_eq, Option.some.injEq]
  refine ⟨cmp_le ?_, cmp_ge ?_⟩
  · show ((m <<< (0 : Int).toNat : Nat) : Int) ≤ ((9007199254740991 <<< (971 - i).toNat : Nat) : Int)
    rw [Nat.shiftLeft_eq, Nat.shiftLeft_eq]
    have h0 : 0 < 2 ^ (971 - i).toNat := Nat.two_pow_pos _
    have h2 : 9007199254740991 * 1 ≤ 9007199254740991 * 2 ^ (971 - i).toNat := Nat.mul_le_mul_left _ h0
    generalize 9007199254740991 * 2 ^ (971 - i).toNat = z at *
    simp
    omega
  · show -((9007199254740991 <<< (971 - i).toNat : Nat) : Int) ≤ ((m <<< (0 : Int).toNat : Nat) : Int)
    generalize 9007199254740991 <<< (971 - i).toNat = z
    generalize m <<< (0 : Int).toNat = y
    omega
end Go.Proofs.YthfjakbpeclfcaaGreatDoor
