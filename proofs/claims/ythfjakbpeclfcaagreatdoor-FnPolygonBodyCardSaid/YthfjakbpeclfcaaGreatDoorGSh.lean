/-
  The library's shouldRoundUp, RoundedInteger and Shift of a decimal.
  Plain laws: what the shifts of a decimal keep (its digits are digits, the first is not nought), and that they make way.
  The library's Shift of a decimal.
  Plain laws for floatBits: what its two loops compute, and that each round lowers a measure.
-/
import Derived.Test.YthfjakbpeclfcaaGreatDoorLs
namespace Go.Proofs.YthfjakbpeclfcaaGreatDoor
open Go.RowKit Go

def rup (L : List Int) (tr : Bool) (n : Int) : Bool :=
  if n < 0 then false else if (L.length : Int) ≤ n then false
  else if L.getD n.toNat 0 = 53 then (if n + 1 = L.length then (if tr then true else if 0 < n then ((L.getD (n.toNat - 1) 0 - 48) % 2 != 0) else false) else true)
  else decide (53 ≤ L.getD n.toNat 0)

theorem digs_getD (D : Nat → Int) {n i : Nat} (h : i < n) : (digs D n).getD i 0 = D i := by
  rw [List.getD_eq_getElem?_getD, digs_get D h]; rfl

set_option maxHeartbeats 1000000 in
set_option maxRecDepth 100000 in
theorem rup_any (w : World) (g : Nat) (D : Nat → Int) (nd : Nat) (dp : Int) (ng tr : Bool) (n : Int) (h : RawAt w g D nd dp ng tr) (hn : nd ≤ 800) (hn0 : -1000000000000 ≤ n) (hn1 : n ≤ 1000000000000)
    (hD : ∀ i, i < nd → 48 ≤ D i ∧ D i ≤ 57) :
    Calls Tryz.prog 158 #[.pointer (some ⟨g, 0, none⟩), .int .i64 n] w fun e w' => e = .returned (.bool (rup (digs D nd) tr n)) ∧ ∃ q, w' = w.drewN q := by
  have cnd := h.cnd
  have ctr := h.ctr
  have H := Lib.hid h
  have HD := Lib.hid hD
  clear h hD
  by_cases h1 : n < 0
  · have hr : rup (digs D nd) tr n = false := by unfold rup; rw [if_pos h1]
    rw [hr]
    have hd1 : decide (n < 0) = true := decide_eq_true h1
    go_enter Tryz.func158, Tryz.ntmps158
    go_wp2
    go_ret
    exact ⟨rfl, 0, rfl⟩
  · have hd1 : decide (n < 0) = false := decide_eq_false h1
    by_cases h2 : (nd : Int) ≤ n
    · have hr : rup (digs D nd) tr n = false := by unfold rup; rw [if_neg h1, if_pos (by rw [digs_length]; exact h2)]
      rw [hr]
      go_enter Tryz.func158, Tryz.ntmps158
      go_wp2
      go_ret
      exact ⟨rfl, 0, rfl⟩
    · obtain ⟨m, rfl⟩ := Int.eq_ofNat_of_zero_le (show 0 ≤ n by omega)
      have hm : m < nd := by omega
      have hm' : (m : Int) < nd := by omega
      have hm8 : (m : Int) < 800 := by omega
      have cd := H.out.dig (i := m) (by omega)
      by_cases h3 : D m = 53
      · have h3' : (D m == 53) = true := by simpa using h3
        by_cases h4 : m + 1 = nd
        · have h4' : ((m : Int) + 1 == (nd : Int)) = true := by rw [beq_iff_eq]; omega
          cases tr with
          | true =>
            have hr : rup (digs D nd) true m = true := by
              unfold rup
              rw [if_neg h1, if_neg (by rw [digs_length]; exact h2), Int.toNat_natCast, digs_getD D hm, if_pos h3, if_pos (by rw [digs_length]; omega), if_pos rfl]
            rw [hr]
            clear h3 h4 hr
            go_enter Tryz.func158, Tryz.ntmps158
            go_wp2
            go_ret
            exact ⟨rfl, 0, rfl⟩
          | false =>
            by_cases h5 : m = 0
            · subst h5
              have hr : rup (digs D nd) false ((0 : Nat) : Int) = false := by
                unfold rup
                rw [if_neg h1, if_neg (by rw [digs_length]; exact h2), Int.toNat_natCast, digs_getD D hm, if_pos h3, if_pos (by rw [digs_length]; omega)]
                rfl
              rw [hr]
              have h5' : decide ((0 : Int) < ((0 : Nat) : Int)) = false := rfl
              clear h3 h4 hr
              go_enter Tryz.func158, Tryz.ntmps158
              go_wp2
              go_ret
              exact ⟨rfl, 0, rfl⟩
            · obtain ⟨m', rfl⟩ : ∃ m', m = m' + 1 := ⟨m - 1, by omega⟩
              have hr : rup (digs D nd) false ((m' + 1 : Nat) : Int) = ((D m' - 48) % 2 != 0) := by
                unfold rup
                rw [if_neg h1, if_neg (by rw [digs_length]; exact h2), Int.toNat_natCast, digs_getD D hm, if_pos h3, if_pos (by rw [digs_length]; omega), if_neg Bool.false_ne_true, if_pos (by omega), Nat.add_sub_cancel, digs_getD D (by omega)]
              rw [hr]
              have h5' : (0 : Int) < ((m' + 1 : Nat) : Int) := by omega
              have cd2 := H.out.dig (i := m') (by omega)
              have hm1 : (((m' + 1 : Nat) : Int) - 1) = (m' : Int) := by omega
              obtain ⟨d1, d2⟩ := HD.out m' (by omega)
              clear h3 h4 hr h5 hn0 hn1 h1
              go_enter Tryz.func158, Tryz.ntmps158
              go_wp2
              go_ret
              exact ⟨rfl, 0, rfl⟩
        · have h4' : ((m : Int) + 1 == (nd : Int)) = false := by rw [beq_eq_false_iff_ne]; omega
          have hr : rup (digs D nd) tr m = true := by
            unfold rup
            rw [if_neg h1, if_neg (by rw [digs_length]; exact h2), Int.toNat_natCast, digs_getD D hm, if_pos h3, if_neg (by rw [digs_length]; omega)]
          rw [hr]
          clear h4 hr
          have H3 := Lib.hid h3
          clear h3
          have h6 : decide (53 ≤ D m) = true := by rw [H3.out]; rfl
          go_enter Tryz.func158, Tryz.ntmps158
          go_wp2
          go_ret
          exact ⟨rfl, 0, rfl⟩
      · have h3' : (D m == 53) = false := by simpa using h3
        have hr : rup (digs D nd) tr m = decide (53 ≤ D m) := by
          unfold rup
          rw [if_neg h1, if_neg (by rw [digs_length]; exact h2), Int.toNat_natCast, digs_getD D hm, if_neg h3]
        rw [hr]
        clear h3 hr
        go_enter Tryz.func158, Tryz.ntmps158
        go_wp2
        go_ret
        exact ⟨rfl, 0, rfl⟩

def ri1 : List Int → Int → Int
  | [], n => n
  | c :: cs, n => ri1 cs (IntKind.u64.wrap (IntKind.u64.wrap (n * 10) + (c - 48)))
def ri2 : Nat → Int → Int
  | 0, n => n
  | k + 1, n => ri2 k (IntKind.u64.wrap (n * 10))
def allOnes : Int := 18446744073709551615
def riF (L : List Int) (dp : Int) (tr : Bool) : Int :=
  if 20 < dp then allOnes
  else if rup L tr dp then IntKind.u64.wrap (ri2 (dp.toNat - L.length) (ri1 (L.take dp.toNat) 0) + 1) else ri2 (dp.toNat - L.length) (ri1 (L.take dp.toNat) 0)

set_option maxHeartbeats 1000000 in
set_option maxRecDepth 100000 in
theorem ri_any (w : World) (g : Nat) (D : Nat → Int) (nd : Nat) (dp : Int) (ng tr : Bool) (h : RawAt w g D nd dp ng tr) (hn : nd ≤ 800) (hdp0 : -1000000000000 ≤ dp)
    (hD : ∀ i, i < nd → 48 ≤ D i ∧ D i ≤ 57) :
    Calls Tryz.prog 152 #[.pointer (some ⟨g, 0, none⟩)] w fun e w' => e = .returned (.int .u64 (riF (digs D nd) dp tr)) ∧ ∃ q, w' = w.drewN q := by
  have cnd := h.cnd
  have cdp := h.cdp
  have H := Lib.hid h
  have HD := Lib.hid hD
  have HDP0 := Lib.hid hdp0
  clear h hD hdp0
  by_cases h20 : 20 < dp
  · have hr : riF (digs D nd) dp tr = 18446744073709551615 := by unfold riF; rw [if_pos h20]; rfl
    have HR := Lib.hid hr
    clear hr
    go_enter Tryz.func152, Tryz.ntmps152
    go_wp2
    go_ret
    exact ⟨congrArg Ending.returned (by rw [HR.out]; rfl), 0, rfl⟩
  · have h20' : dp ≤ 20 := by omega
    have hr : riF (digs D nd) dp tr = if rup (digs D nd) tr dp then IntKind.u64.wrap (ri2 (dp.toNat - nd) (ri1 ((digs D nd).take dp.toNat) 0) + 1) else ri2 (dp.toNat - nd) (ri1 ((digs D nd).take dp.toNat) 0) := by
      unfold riF; rw [if_neg h20, digs_length]
    have HR := Lib.hid hr
    clear hr h20
    go_enter Tryz.func152, Tryz.ntmps152
    go_upto_block 0 with fail
    go_cut [3, 4] (fun s3 s4 wx => wx = w ∧ ∃ i : Nat, s3 = .int .i64 i ∧ i = min nd dp.toNat ∧ s4 = .int .u64 (ri1 ((digs D nd).take dp.toNat) 0))
    case first =>
      go_wp2_with fail
      go_loopg [3, 4] nd (fun M s3 s4 wr => ∃ (i : Nat) (n : Int), s3 = .int .i64 i ∧ s4 = .int .u64 n ∧ i + M = nd ∧ i ≤ dp.toNat ∧ ri1 ((digs D nd).take dp.toNat) 0 = ri1 (((digs D nd).take dp.toNat).drop i) n ∧ wr = w)
      case atStart => exact ⟨0, 0, rfl, rfl, by omega, by omega, rfl, rfl⟩
      case round =>
        obtain ⟨i, n, rfl, rfl, hi, hid, hri, rfl⟩ := hrel
        have HI := Lib.hid hi
        have HRI := Lib.hid hri
        clear hi hri
        by_cases h1 : (i : Int) < dp
        · have hd1 : decide ((i : Int) < dp) = true := decide_eq_true h1
          by_cases h2 : i < nd
          · have h2' : (i : Int) < nd := by omega
            have hi8 : (i : Int) < 800 := by omega
            have cd := H.out.dig (i := i) (by omega)
            obtain ⟨d1, d2⟩ := HD.out i h2
            clear hd1
            go_wp2
            go_roundg (nd - (i + 1))
            case measure => have := HI.out; omega
            case rel =>
              refine ⟨i + 1, _, by go_num, rfl, by have := HI.out; omega, by omega, ?_, rfl⟩
              rw [HRI.out]
              have e : ((digs D nd).take dp.toNat).drop i = D i :: ((digs D nd).take dp.toNat).drop (i + 1) := by
                rw [List.drop_eq_getElem_cons (by rw [List.length_take, digs_length]; omega)]
                congr 1
                simp [digs]
              rw [e, ri1]
          · have h2' : (nd : Int) ≤ i := by omega
            go_wp2
            go_meet
            refine ⟨rfl, i, rfl, by have := HI.out; omega, ?_⟩
            rw [HRI.out, List.drop_of_length_le (by rw [List.length_take, digs_length]; have := HI.out; omega)]
            rfl
        · have hd1 : decide ((i : Int) < dp) = false := decide_eq_false h1
          go_wp2
          go_meet
          refine ⟨rfl, i, rfl, by have := HI.out; omega, ?_⟩
          rw [HRI.out, List.drop_of_length_le (by rw [List.length_take, digs_length]; have := HI.out; omega)]
          rfl
    case rest =>
      obtain ⟨rfl, i, rfl, hi, rfl⟩ := hcut
      have HI := Lib.hid hi
      clear hi
      generalize hN : ri1 ((digs D nd).take dp.toNat) 0 = N at *
      have HN := Lib.hid hN
      clear hN
      go_wp2
      go_loopg [3, 4] (dp.toNat - nd) (fun M s3 s4 wr => ∃ (j : Nat) (n : Int), s3 = .int .i64 j ∧ s4 = .int .u64 n ∧ M = dp.toNat - j ∧ (i = nd → nd ≤ j) ∧ (i < nd → dp.toNat ≤ j) ∧ ri2 (dp.toNat - nd) N = ri2 M n ∧ wr = wc)
      case atStart => exact ⟨i, N, rfl, rfl, by have := HI.out; omega, by have := HI.out; omega, by have := HI.out; omega, rfl, rfl⟩
      case round =>
        obtain ⟨j, n, rfl, rfl, hM, hj, hj2, hri, rfl⟩ := hrel
        have HM := Lib.hid hM
        have HJ := Lib.hid hj
        have HJ2 := Lib.hid hj2
        have HRI := Lib.hid hri
        clear hM hj hj2 hri
        by_cases h1 : (j : Int) < dp
        · obtain ⟨m, rfl⟩ : ∃ m, gk = m + 1 := ⟨gk - 1, by have := HM.out; omega⟩
          go_wp2
          go_roundg m
          case measure => omega
          case rel => exact ⟨j + 1, _, by go_num, rfl, by have := HM.out; omega, fun h => by have := HJ.out h; omega, fun h => by have := HJ2.out h; omega, by rw [HRI.out]; rfl, rfl⟩
        · have h1' : dp ≤ j := by omega
          have hg0 : gk = 0 := by have := HM.out; omega
          have hN2 : ri2 (dp.toNat - nd) N = n := by rw [HRI.out, hg0]; rfl
          have HN2 := Lib.hid hN2
          have hdp0 := HDP0.out
          clear hN2 hg0
          go_wp2_with fail
          refine (rup_any _ g D nd dp ng tr dp H.out hn hdp0 (by omega) HD.out).mono ?_
          clear hdp0
          rintro e1 w1 ⟨rfl, q, rfl⟩
          cases hrup : rup (digs D nd) tr dp
          · go_wp2
            go_ret
            exact ⟨congrArg Ending.returned (by rw [HR.out, hrup, HN2.out]; rfl), q, rfl⟩
          · go_wp2
            go_ret
            exact ⟨congrArg Ending.returned (by rw [HR.out, hrup, HN2.out]; rfl), q, rfl⟩
end Go.Proofs.YthfjakbpeclfcaaGreatDoor

namespace Go.Proofs.YthfjakbpeclfcaaGreatDoor
open Go

structure Nrm (L : List Int) : Prop where
  dg : Dg L
  ne : L ≠ []
  hd : L.headD 48 ≠ 48
  len : L.length ≤ 800

theorem dropWhile_head (c : Int) (hc : c ≠ 48) : ∀ R : List Int, ∃ s, ((R ++ [c]).dropWhile (· == 48)).reverse = c :: s ∧ (∀ x ∈ s, x ∈ R) ∧ s.length ≤ R.length
  | [] => ⟨[], by simp [hc], by simp, by simp⟩
  | x :: R => by
    by_cases hx : x = 48
    · obtain ⟨s, h1, h2, h3⟩ := dropWhile_head c hc R
      refine ⟨s, ?_, fun y hy => by simp [h2 y hy], by simp; omega⟩
      simpa [hx] using h1
    · refine ⟨R.reverse ++ [x], by simp [hx], ?_, by simp⟩
      intro y hy
      simp at hy ⊢
      rcases hy with h | h
      · exact .inr h
      · exact .inl h
theorem trimL_head (c : Int) (cs : List Int) (hc : c ≠ 48) : ∃ s, trimL (c :: cs) = c :: s ∧ (∀ x ∈ s, x ∈ cs) ∧ s.length ≤ cs.length := by
  obtain ⟨s, h1, h2, h3⟩ := dropWhile_head c hc cs.reverse
  refine ⟨s, ?_, fun x hx => by simpa using h2 x hx, by simpa using h3⟩
  unfold trimL
  rw [List.reverse_cons]
  exact h1
theorem nrm_trim (c : Int) (cs : List Int) (hd : Dg (c :: cs)) (hc : c ≠ 48) (hl : (c :: cs).length ≤ 800) : Nrm (trimL (c :: cs)) ∧ (trimL (c :: cs)).headD 48 = c := by
  obtain ⟨s, h1, h2, h3⟩ := trimL_head c cs hc
  rw [h1]
  refine ⟨⟨?_, by simp, by simpa using hc, by simp at hl ⊢; omega⟩, rfl⟩
  intro x hx
  rcases List.mem_cons.1 hx with rfl | hx
  · exact hd.head
  · exact hd.tail x (h2 x hx)

/-! rightShift -/
theorem rs3_props (k : Nat) : ∀ (L : List Int) (n : Int) (o : List Int), Dg L → Dg o → 0 ≤ n → n < 10 * 2 ^ k →
    (∃ s, (rs3 k L n o).1 = o ++ s) ∧ Dg (rs3 k L n o).1 ∧ 0 ≤ (rs3 k L n o).2 ∧ (rs3 k L n o).2 < 10 * 2 ^ k ∧ (rs3 k L n o).1.length = o.length + L.length
  | [], n, o, _, ho, h0, h1 => ⟨⟨[], by simp [rs3]⟩, ho, h0, h1, by simp [rs3]⟩
  | c :: cs, n, o, hL, ho, h0, h1 => by
    have hp : (0 : Int) < 2 ^ k := Int.pow_pos (by decide)
    have m0 := Int.emod_nonneg n (show (2 : Int) ^ k ≠ 0 by omega)
    have m1 := Int.emod_lt_of_pos n hp
    have q0 : 0 ≤ n / 2 ^ k := Int.ediv_nonneg h0 (by omega)
    have q9 : n / 2 ^ k < 10 := Int.ediv_lt_of_lt_mul (by omega) (by omega)
    obtain ⟨c1, c2⟩ := hL.head
    have ho' : Dg (o ++ [n / 2 ^ k + 48]) := fun x hx => by
      rcases List.mem_append.1 hx with h | h
      · exact ho x h
      · simp at h; omega
    obtain ⟨⟨s, hs⟩, a, b, d, e⟩ := rs3_props k cs (n % 2 ^ k * 10 + c - 48) (o ++ [n / 2 ^ k + 48]) hL.tail ho' (by omega) (by omega)
    unfold rs3
    refine ⟨⟨[n / 2 ^ k + 48] ++ s, by rw [hs, List.append_assoc]⟩, a, b, d, by rw [e]; simp; omega⟩
theorem rs4_props (k : Nat) : ∀ (f : Nat) (n : Int) (o : List Int) (t : Bool), Dg o → o.length ≤ 800 → 0 ≤ n → n < 10 * 2 ^ k →
    (∃ s, (rs4 k f n o t).1 = o ++ s) ∧ Dg (rs4 k f n o t).1 ∧ (rs4 k f n o t).1.length ≤ 800
  | 0, n, o, t, ho, hl, _, _ => ⟨⟨[], by simp [rs4]⟩, ho, hl⟩
  | f + 1, n, o, t, ho, hl, h0, h1 => by
    unfold rs4
    split
    · exact ⟨⟨[], by simp⟩, ho, hl⟩
    · have hp : (0 : Int) < 2 ^ k := Int.pow_pos (by decide)
      have m0 := Int.emod_nonneg n (show (2 : Int) ^ k ≠ 0 by omega)
      have m1 := Int.emod_lt_of_pos n hp
      have q0 : 0 ≤ n / 2 ^ k := Int.ediv_nonneg h0 (by omega)
      have q9 : n / 2 ^ k < 10 := Int.ediv_lt_of_lt_mul (by omega) (by omega)
      by_cases hl8 : o.length < 800
      · rw [if_pos hl8, if_pos hl8]
        have ho' : Dg (o ++ [n / 2 ^ k + 48]) := fun x hx => by
          rcases List.mem_append.1 hx with h | h
          · exact ho x h
          · simp at h; omega
        obtain ⟨⟨s, hs⟩, a, b⟩ := rs4_props k f (n % 2 ^ k * 10) (o ++ [n / 2 ^ k + 48]) t ho' (by simp; omega) (by omega) (by omega)
        exact ⟨⟨[n / 2 ^ k + 48] ++ s, by rw [hs, List.append_assoc]⟩, a, b⟩
      · rw [if_neg hl8, if_neg hl8]
        exact rs4_props k f (n % 2 ^ k * 10) o _ ho hl (by omega) (by omega)
theorem up10_big (k : Nat) : ∀ (f : Nat) (n : Int) (m : Nat), 0 < n → 2 ^ k ≤ n * 10 ^ f → (up10 k f n m).1 / 2 ^ k ≠ 0
  | 0, n, m, h0, h1 => by
    have hp : (0 : Int) < 2 ^ k := Int.pow_pos (by decide)
    have : 1 ≤ n / 2 ^ k := (Int.le_ediv_iff_mul_le hp).2 (by simpa using h1)
    simp only [up10]
    omega
  | f + 1, n, m, h0, h1 => by
    unfold up10
    split
    · refine up10_big k f (n * 10) (m + 1) (by omega) ?_
      rw [Int.pow_succ, Int.mul_comm (10 ^ f), ← Int.mul_assoc] at h1
      exact h1
    · assumption
theorem rs1_pos (k : Nat) : ∀ (L : List Int) (n : Int), Dg L → 0 < n → 0 < (rs1 k L n).1
  | [], _, _, h => h
  | c :: cs, n, hL, h => by
    unfold rs1
    split
    · obtain ⟨c1, c2⟩ := hL.head
      exact rs1_pos k cs _ hL.tail (by omega)
    · exact h
theorem rs1_start (k : Nat) (c : Int) (cs : List Int) : rs1 k (c :: cs) 0 = rs1 k cs (c - 48) := by
  have hp : (0 : Int) < 2 ^ k := Int.pow_pos (by decide)
  rw [rs1, if_pos (Int.ediv_eq_zero_of_lt (Int.le_refl _) hp)]
  congr 1
  omega
theorem rsA_big (k : Nat) (hk : k ≤ 60) (c : Int) (cs : List Int) (hL : Dg (c :: cs)) (hc : c ≠ 48) : (rsA k (c :: cs)).1 / 2 ^ k ≠ 0 := by
  obtain ⟨c1, c2⟩ := hL.head
  unfold rsA
  split
  · have hpos : 0 < (rs1 k (c :: cs) 0).1 := by
      rw [rs1_start]
      exact rs1_pos k cs _ hL.tail (by omega)
    refine up10_big k 20 _ _ hpos ?_
    have := pow_le60 hk
    have e : (10 : Int) ^ 20 = 100000000000000000000 := rfl
    rw [e]
    omega
  · assumption
/-- Where just one digit was read, that digit alone is the number. -/
theorem rsA_one (k : Nat) (c : Int) (cs : List Int) (hL : Dg (c :: cs)) (h1 : (rsA k (c :: cs)).2.2 = 1) : (rsA k (c :: cs)).1 = c - 48 := by
  have hp : (0 : Int) < 2 ^ k := Int.pow_pos (by decide)
  unfold rsA at h1 ⊢
  split
  · rename_i h
    rw [if_pos h] at h1
    dsimp only at h1 ⊢
    exfalso
    have hb := rs1_bound k (c :: cs) 0 (by omega) (by omega) hL
    have hu := lt_of_div0 h
    unfold up10 at h1
    rw [if_pos h] at h1
    obtain ⟨-, -, hm, -⟩ := up10_props k 19 ((rs1 k (c :: cs) 0).1 * 10) ((c :: cs).length + 1) (by omega) (by omega)
    simp only [List.length_cons] at h1 hm
    omega
  · rename_i h
    rw [if_neg h] at h1
    dsimp only at h1 ⊢
    rw [rs1_start] at h1 ⊢
    obtain ⟨j, hj, ej⟩ := rs1_suffix k cs (c - 48)
    rw [ej] at h1
    simp only [List.length_cons, List.length_drop] at h1
    have hj0 : j = 0 := by omega
    subst hj0
    cases cs with
    | nil => rfl
    | cons d ds =>
      unfold rs1 at ej ⊢
      split
      · rename_i h2
        rw [if_pos h2] at ej
        obtain ⟨i, hi, ei⟩ := rs1_suffix k ds ((c - 48) * 10 + d - 48)
        rw [ei] at ej
        have := congrArg List.length ej
        simp at this
        omega
      · rfl

theorem rsF_nrm (k : Nat) (_hk0 : 0 < k) (hk : k ≤ 60) (L : List Int) (dp : Int) (tr : Bool) (h : Nrm L) :
    Nrm (rsF k L dp tr).1 ∧ (rsF k L dp tr).2.1 = dp - ((rsA k L).2.2 - 1) ∧ 1 ≤ (rsA k L).2.2 ∧ (rsA k L).2.2 ≤ 820 ∧ (rsF k L dp tr).1.headD 48 = (rsA k L).1 / 2 ^ k + 48 := by
  obtain ⟨c, cs, rfl⟩ : ∃ c cs, L = c :: cs := by
    cases L with
    | nil => exact absurd rfl h.ne
    | cons c cs => exact ⟨c, cs, rfl⟩
  have hc : c ≠ 48 := h.hd
  have hlen := h.len
  have hp : (0 : Int) < 2 ^ k := Int.pow_pos (by decide)
  obtain ⟨a1, a2, a3, a4, a5⟩ := rsA_props k (c :: cs) h.dg (by simp)
  have hbig := rsA_big k hk c cs h.dg hc
  generalize hA : rsA k (c :: cs) = A at *
  obtain ⟨n, rest, rc⟩ := A
  simp only at a1 a2 a3 a4 a5 hbig
  have q0 : 0 ≤ n / 2 ^ k := Int.ediv_nonneg a1 (by omega)
  have q9 : n / 2 ^ k < 10 := Int.ediv_lt_of_lt_mul (by omega) (by omega)
  have hrest : Dg rest := fun x hx => h.dg x (by rw [← a5] at hx; exact List.mem_of_mem_drop hx)
  have hrl : rest.length + 1 ≤ 800 := by
    rw [← a5, List.length_drop]
    simp only [List.length_cons] at hlen ⊢
    omega
  obtain ⟨⟨s3, e3⟩, d3, n30, n31, l3⟩ := rs3_props k rest n [] hrest (by intro x hx; cases hx) a1 a2
  simp only [List.nil_append, List.length_nil, Nat.zero_add] at e3 l3
  -- the first digit that comes out
  have hfirst : ∃ t, (rs4 k (k + 1) (rs3 k rest n []).2 (rs3 k rest n []).1 tr).1 = (n / 2 ^ k + 48) :: t := by
    obtain ⟨⟨s4, e4⟩, -, -⟩ := rs4_props k (k + 1) (rs3 k rest n []).2 (rs3 k rest n []).1 tr d3 (by omega) n30 n31
    cases rest with
    | nil =>
      simp only [rs3]
      unfold rs4
      have hn0 : n ≠ 0 := by rintro rfl; simp at hbig
      rw [if_neg hn0]
      have m0 := Int.emod_nonneg n (show (2 : Int) ^ k ≠ 0 by omega)
      have m1 := Int.emod_lt_of_pos n hp
      obtain ⟨⟨s5, e5⟩, -, -⟩ := rs4_props k k (n % 2 ^ k * 10) [n / 2 ^ k + 48] tr (by intro x hx; simp at hx; omega) (by simp) (by omega) (by omega)
      exact ⟨s5, by simpa using e5⟩
    | cons d ds =>
      rw [e4]
      obtain ⟨d1, d2⟩ := hrest.head
      have m0 := Int.emod_nonneg n (show (2 : Int) ^ k ≠ 0 by omega)
      have m1 := Int.emod_lt_of_pos n hp
      obtain ⟨⟨s5, e5⟩, -⟩ := rs3_props k ds (n % 2 ^ k * 10 + d - 48) [n / 2 ^ k + 48] hrest.tail (by intro x hx; simp at hx; omega) (by omega) (by omega)
      have : (rs3 k (d :: ds) n []).1 = (n / 2 ^ k + 48) :: s5 := by
        rw [rs3, List.nil_append, e5]
        rfl
      rw [this]
      exact ⟨s5 ++ s4, rfl⟩
  obtain ⟨-, d4, l4⟩ := rs4_props k (k + 1) (rs3 k rest n []).2 (rs3 k rest n []).1 tr d3 (by omega) n30 n31
  obtain ⟨t4, ht4⟩ := hfirst
  rw [ht4] at d4 l4
  obtain ⟨hn, hh⟩ := nrm_trim _ t4 d4 (by omega) l4
  have hF : rsF k (c :: cs) dp tr = (trimL ((n / 2 ^ k + 48) :: t4), dp - ((rc : Int) - 1), (rs4 k (k + 1) (rs3 k rest n []).2 (rs3 k rest n []).1 tr).2) := by
    unfold rsF
    rw [hA]
    dsimp only
    rw [ht4, if_neg hn.ne]
  rw [hF]
  simp only [List.length_cons] at a4 hlen
  exact ⟨hn, rfl, a3, by show rc ≤ 820; omega, hh⟩

/-! leftShift -/
theorem lsF_nrm (k : Nat) (hk0 : 0 < k) (hk : k ≤ 60) (L : List Int) (dp : Int) (tr : Bool) (h : Nrm L) :
    Nrm (lsF k L dp tr).1 ∧ (lsF k L dp tr).2.1 = dp + dlt k L ∧ dlt k L ≤ 61 ∧ (dlt k L = 0 → L.headD 48 < (lsF k L dp tr).1.headD 48) := by
  obtain ⟨c, cs, rfl⟩ : ∃ c cs, L = c :: cs := by
    cases L with
    | nil => exact absurd rfl h.ne
    | cons c cs => exact ⟨c, cs, rfl⟩
  have hc : c ≠ 48 := h.hd
  obtain ⟨o1, o2, o3⟩ := lsO_props k hk0 hk c cs h.dg hc
  obtain ⟨f1, f2, -⟩ := ch_facts k hk0 hk
  have hdl : dlt k (c :: cs) ≤ 61 := by unfold dlt; split <;> omega
  have hmain := ls_main k hk0 hk c cs h.dg hc
  obtain ⟨n0, n1, n2, l1, g1, v1⟩ := hmain
  cases hO : lsO k (c :: cs) with
  | nil => rw [hO] at o1; simp at o1
  | cons e es =>
    rw [hO] at o1 o2 o3
    obtain ⟨e1, e2⟩ := o2.head
    have p2 : (2 : Int) ≤ 2 ^ k := by
      have : (2 : Int) ^ 1 ≤ 2 ^ k := by
        have : (2 : Nat) ^ 1 ≤ 2 ^ k := Nat.pow_le_pow_right (by decide) hk0
        exact_mod_cast this
      simpa using this
    have hlen : es.length = dlt k (c :: cs) + cs.length := by simp at o1; omega
    obtain ⟨b0, b1⟩ := val_bd es o2.tail
    obtain ⟨u0, u1⟩ := val_bd cs h.dg.tail
    obtain ⟨c1, c2⟩ := h.dg.head
    -- the value is at least ten to the count of the digits behind the first
    have hge : (10 : Int) ^ es.length ≤ val (c :: cs) * 2 ^ k := by
      rw [hlen, ← v1]
      obtain ⟨w0, w1⟩ := val_bd _ g1
      rcases n2 with hz | hz
      · rw [hz, Nat.zero_add]
        have vh := val_head c cs h.dg hc
        rw [v1]
        have : (10 : Int) ^ cs.length * 1 ≤ val (c :: cs) * 2 ^ k := Int.mul_le_mul vh (by omega) (by decide) (Int.le_trans (Int.le_of_lt (ten_pos _)) vh)
        omega
      · have q1 : (10 : Int) ^ (dlt k (c :: cs) - 1) * 10 ^ (c :: cs).length ≤ (ls1 k (c :: cs).reverse 0 []).1 * 10 ^ (c :: cs).length :=
          Int.mul_le_mul_of_nonneg_right hz (Int.le_of_lt (ten_pos _))
        by_cases hd0 : dlt k (c :: cs) = 0
        · rw [hd0, Nat.zero_add]
          have vh := val_head c cs h.dg hc
          rw [v1]
          have : (10 : Int) ^ cs.length * 1 ≤ val (c :: cs) * 2 ^ k := Int.mul_le_mul vh (by omega) (by decide) (Int.le_trans (Int.le_of_lt (ten_pos _)) vh)
          omega
        · have e0 : (10 : Int) ^ (dlt k (c :: cs) + cs.length) = 10 ^ (dlt k (c :: cs) - 1) * 10 ^ (c :: cs).length := by
            rw [← Int.pow_add]
            congr 1
            simp
            omega
          rw [e0]
          omega
    have he : e ≠ 48 := by
      rintro rfl
      have e0 : val (48 :: es) = val es := by simp [val]
      rw [e0] at o3
      omega
    have htk : (e :: es).take 800 = e :: es.take 799 := rfl
    obtain ⟨hn, hh⟩ := nrm_trim e (es.take 799) (fun x hx => o2 x (by rw [← htk] at hx; exact List.mem_of_mem_take hx)) he (by simp; omega)
    have hF : lsF k (c :: cs) dp tr = (trimL (e :: es.take 799), dp + dlt k (c :: cs), tr || ((e :: es).drop 800).any (· != 48)) := by
      unfold lsF
      rw [hO, htk, if_neg hn.ne]
    rw [hF]
    refine ⟨hn, rfl, hdl, fun hd0 => ?_⟩
    show c < (trimL (e :: es.take 799)).headD 48
    rw [hh]
    -- no new digit: the first one doubles at least
    rw [hd0, Nat.zero_add] at hlen
    by_cases hec : c < e
    · exact hec
    · exfalso
      have k1 : val (e :: es) < (e - 48 + 1) * 10 ^ cs.length := by
        simp only [val]
        rw [hlen] at b1 ⊢
        rw [Int.add_mul]
        omega
      have k2 : (c - 48) * 10 ^ cs.length * 2 ≤ val (c :: cs) * 2 ^ k := by
        have v3 : (c - 48) * 10 ^ cs.length ≤ val (c :: cs) := by simp only [val]; omega
        have v4 : 0 ≤ (c - 48) * 10 ^ cs.length := Int.mul_nonneg (by omega) (Int.le_of_lt (ten_pos _))
        exact Int.mul_le_mul v3 p2 (by decide) (Int.le_trans v4 v3)
      have k3 : (e - 48 + 1) * 10 ^ cs.length ≤ (c - 48 + 1) * 10 ^ cs.length := Int.mul_le_mul_of_nonneg_right (by omega) (Int.le_of_lt (ten_pos _))
      have k4 : (1 : Int) * 10 ^ cs.length ≤ (c - 48) * 10 ^ cs.length := Int.mul_le_mul_of_nonneg_right (by omega) (Int.le_of_lt (ten_pos _))
      have k5 : (c - 48 + 1) * 10 ^ cs.length = (c - 48) * 10 ^ cs.length + 1 * 10 ^ cs.length := by rw [Int.add_mul]
      omega
end Go.Proofs.YthfjakbpeclfcaaGreatDoor

namespace Go.Proofs.YthfjakbpeclfcaaGreatDoor
open Go.RowKit Go

abbrev St := List Int × Int × Bool
def shL : Nat → Nat → St → St
  | 0, _, s => s
  | f + 1, k, s => if 60 < k then shL f (k - 60) (lsF 60 s.1 s.2.1 s.2.2) else lsF k s.1 s.2.1 s.2.2
def shR : Nat → Nat → St → St
  | 0, _, s => s
  | f + 1, k, s => if 60 < k then shR f (k - 60) (rsF 60 s.1 s.2.1 s.2.2) else rsF k s.1 s.2.1 s.2.2

/-- The table of the new digits lies in w, and not in block g. -/
structure CheatAt (w : World) (g : Nat) : Prop where
  ne : g ≠ 15
  tab : ∃ lb lo lc : Nat, lb ≠ g ∧ w.cell? ⟨15, 0, none⟩ = some (.slice (some ⟨lb, lo, none⟩) 61 lc) ∧
    ∀ k, k < 61 → w.cell? ⟨lb, lo + k * 2, none⟩ = some (.int .i64 (chD k)) ∧ w.cell? ⟨lb, lo + k * 2 + 1, none⟩ = some (.string ⟨(chS k).toArray⟩)
theorem CheatAt.only {w w' : World} {g : Nat} (h : CheatAt w g) (ho : Only g w w') : CheatAt w' g := by
  obtain ⟨lb, lo, lc, h1, h2, h3⟩ := h.tab
  exact ⟨h.ne, lb, lo, lc, h1, (ho.cell (fun e => h.ne e.symm)).trans h2, fun k hk => ⟨(ho.cell h1).trans (h3 k hk).1, (ho.cell h1).trans (h3 k hk).2⟩⟩

theorem Nrm.facts {L : List Int} (h : Nrm L) {D : Nat → Int} (e : digs D L.length = L) : L.length ≤ 800 ∧ 0 < L.length ∧ (∀ i, i < L.length → 48 ≤ D i ∧ D i ≤ 57) ∧ D 0 ≠ 48 := by
  have hp : 0 < L.length := List.length_pos_iff.2 h.ne
  refine ⟨h.len, hp, fun i hi => h.dg _ (by rw [← e]; exact digs_mem.2 ⟨i, hi, rfl⟩), ?_⟩
  have h0 := digs_get D (n := L.length) (i := 0) hp
  rw [e] at h0
  have hd := h.hd
  cases L with
  | nil => exact absurd rfl h.ne
  | cons c cs =>
    simp at h0 hd
    rw [← h0]
    exact hd
theorem ls_dec (w : World) (g : Nat) (L : List Int) (dp : Int) (ng tr : Bool) (k : Nat) (h : DecAt w g L dp ng tr) (hN : Nrm L) (hk0 : 0 < k) (hk : k ≤ 60)
    (hdp0 : -1000000000000 ≤ dp) (hdp1 : dp ≤ 1000000000000) (hC : CheatAt w g) :
    Calls Tryz.prog 156 #[.pointer (some ⟨g, 0, none⟩), .int .u64 k] w fun e w' => e = .returned (.tuple #[]) ∧
      DecAt w' g (lsF k L dp tr).1 (lsF k L dp tr).2.1 ng (lsF k L dp tr).2.2 ∧ Only g w w' := by
  obtain ⟨D, hr, hd⟩ := h
  obtain ⟨a, b, c, d⟩ := hN.facts hd
  obtain ⟨lb, lo, lc, h1, h2, h3⟩ := hC.tab
  have := leftShift_any w g D L.length dp ng tr k hr a b hk0 hk c d hdp0 hdp1 lb lo lc h2 (h3 k (by omega)).1 (h3 k (by omega)).2
  rw [hd] at this
  exact this
theorem rs_dec (w : World) (g : Nat) (L : List Int) (dp : Int) (ng tr : Bool) (k : Nat) (h : DecAt w g L dp ng tr) (hN : Nrm L) (hk0 : 0 < k) (hk : k ≤ 60)
    (hdp0 : -1000000000000 ≤ dp) (hdp1 : dp ≤ 1000000000000) :
    Calls Tryz.prog 157 #[.pointer (some ⟨g, 0, none⟩), .int .u64 k] w fun e w' => e = .returned (.tuple #[]) ∧
      DecAt w' g (rsF k L dp tr).1 (rsF k L dp tr).2.1 ng (rsF k L dp tr).2.2 ∧ Only g w w' := by
  obtain ⟨D, hr, hd⟩ := h
  obtain ⟨a, b, c, d⟩ := hN.facts hd
  have := rightShift_any w g D L.length dp ng tr k hr a b hk0 hk c d hdp0 hdp1
  rw [hd] at this
  exact this

theorem DecAt.cnd {w : World} {g : Nat} {L : List Int} {dp : Int} {ng tr : Bool} (h : DecAt w g L dp ng tr) : w.cell? ⟨g, 800, none⟩ = some (.int .i64 L.length) := by
  obtain ⟨D, hr, -⟩ := h
  exact hr.cnd

set_option maxHeartbeats 1000000 in
set_option maxRecDepth 100000 in
theorem shiftL_any (w : World) (g : Nat) (s : St) (ng : Bool) (k : Nat) (h : DecAt w g s.1 s.2.1 ng s.2.2) (hN : Nrm s.1) (hk0 : 0 < k) (hk : k ≤ 1000000)
    (hdp0 : -100000000000 ≤ s.2.1) (hdp1 : s.2.1 ≤ 100000000000) (hC : CheatAt w g) :
    Calls Tryz.prog 151 #[.pointer (some ⟨g, 0, none⟩), .int .i64 k] w fun e w' => e = .returned (.tuple #[]) ∧
      DecAt w' g (shL k k s).1 (shL k k s).2.1 ng (shL k k s).2.2 ∧ Only g w w' := by
  have cnd := h.cnd
  have hne : ((s.1.length : Int) == 0) = false := by
    have := List.length_pos_iff.2 hN.ne
    rw [beq_eq_false_iff_ne]
    omega
  have H := Lib.hid h
  have HN := Lib.hid hN
  have HC := Lib.hid hC
  have hk0' : (0 : Int) < k := by omega
  clear h hN hC
  go_enter Tryz.func151, Tryz.ntmps151
  go_wp2
  go_loopg [1] k (fun M s1 wr => ∃ (j f : Nat) (t : St), s1 = .int .i64 j ∧ M = j ∧ 0 < j ∧ j ≤ k ∧ j ≤ f ∧ shL k k s = shL f j t ∧ DecAt wr g t.1 t.2.1 ng t.2.2 ∧ Nrm t.1 ∧
    s.2.1 - 820 * (k - j) ≤ t.2.1 ∧ t.2.1 ≤ s.2.1 + 820 * (k - j) ∧ CheatAt wr g ∧ Only g w wr)
  case atStart => exact ⟨k, k, s, rfl, rfl, hk0, Nat.le_refl _, Nat.le_refl _, rfl, H.out, HN.out, by omega, by omega, HC.out, Only.refl _ _⟩
  case round =>
    obtain ⟨j, f, t, rfl, hM, hj0, hjk, hjf, hsh, hdec, hnrm, hd0, hd1, hch, hon⟩ := hrel
    have HM := Lib.hid hM
    have HSH := Lib.hid hsh
    have HDEC := Lib.hid hdec
    have HNRM := Lib.hid hnrm
    have HCH := Lib.hid hch
    have HON := Lib.hid hon
    clear hM hsh hdec hnrm hch hon
    obtain ⟨f', rfl⟩ : ∃ f', f = f' + 1 := ⟨f - 1, by omega⟩
    by_cases h60 : 60 < j
    · have h60' : (60 : Int) < j := by omega
      obtain ⟨n1, n2, n3, -⟩ := lsF_nrm 60 (by omega) (by omega) t.1 t.2.1 t.2.2 HNRM.out
      have N1 := Lib.hid n1
      have N2 := Lib.hid n2
      clear n1 n2
      go_wp2_with fail
      refine (ls_dec _ g t.1 t.2.1 ng t.2.2 60 HDEC.out HNRM.out (by omega) (by omega) (by omega) (by omega) HCH.out).mono ?_
      rintro e w1 ⟨rfl, hdec', hon'⟩
      have HD' := Lib.hid hdec'
      have HO' := Lib.hid hon'
      clear hdec' hon'
      go_wp2
      go_roundg (j - 60)
      case measure => have := HM.out; omega
      case rel =>
        refine ⟨j - 60, f', _, by go_num, rfl, by omega, by omega, by omega, ?_, HD'.out, N1.out, by rw [N2.out]; omega, by rw [N2.out]; omega, HCH.out.only HO'.out, HON.out.trans HO'.out⟩
        rw [HSH.out, shL, if_pos h60]
    · have h60' : (j : Int) ≤ 60 := by omega
      have hj0' : (0 : Int) < j := by omega
      go_wp2_with fail
      refine (ls_dec _ g t.1 t.2.1 ng t.2.2 j HDEC.out HNRM.out hj0 (by omega) (by omega) (by omega) HCH.out).mono ?_
      rintro e w1 ⟨rfl, hdec', hon'⟩
      have HD' := Lib.hid hdec'
      have HO' := Lib.hid hon'
      clear hdec' hon'
      go_wp2
      go_end0
      rw [HSH.out, shL, if_neg h60]
      exact ⟨rfl, HD'.out, HON.out.trans HO'.out⟩

set_option maxHeartbeats 1000000 in
set_option maxRecDepth 100000 in
theorem shiftR_any (w : World) (g : Nat) (s : St) (ng : Bool) (k : Nat) (h : DecAt w g s.1 s.2.1 ng s.2.2) (hN : Nrm s.1) (hk0 : 0 < k) (hk : k ≤ 1000000)
    (hdp0 : -100000000000 ≤ s.2.1) (hdp1 : s.2.1 ≤ 100000000000) :
    Calls Tryz.prog 151 #[.pointer (some ⟨g, 0, none⟩), .int .i64 (-(k : Int))] w fun e w' => e = .returned (.tuple #[]) ∧
      DecAt w' g (shR k k s).1 (shR k k s).2.1 ng (shR k k s).2.2 ∧ Only g w w' := by
  have cnd := h.cnd
  have hne : ((s.1.length : Int) == 0) = false := by
    have := List.length_pos_iff.2 hN.ne
    rw [beq_eq_false_iff_ne]
    omega
  have H := Lib.hid h
  have HN := Lib.hid hN
  have hk0' : -(k : Int) < 0 := by omega
  clear h hN
  go_enter Tryz.func151, Tryz.ntmps151
  go_wp2
  go_loopg [1] k (fun M s1 wr => ∃ (j f : Nat) (t : St), s1 = .int .i64 (-(j : Int)) ∧ M = j ∧ 0 < j ∧ j ≤ k ∧ j ≤ f ∧ shR k k s = shR f j t ∧ DecAt wr g t.1 t.2.1 ng t.2.2 ∧ Nrm t.1 ∧
    s.2.1 - 820 * (k - j) ≤ t.2.1 ∧ t.2.1 ≤ s.2.1 + 820 * (k - j) ∧ Only g w wr)
  case atStart => exact ⟨k, k, s, rfl, rfl, hk0, Nat.le_refl _, Nat.le_refl _, rfl, H.out, HN.out, by omega, by omega, Only.refl _ _⟩
  case round =>
    obtain ⟨j, f, t, rfl, hM, hj0, hjk, hjf, hsh, hdec, hnrm, hd0, hd1, hon⟩ := hrel
    have HM := Lib.hid hM
    have HSH := Lib.hid hsh
    have HDEC := Lib.hid hdec
    have HNRM := Lib.hid hnrm
    have HON := Lib.hid hon
    clear hM hsh hdec hnrm hon
    obtain ⟨f', rfl⟩ : ∃ f', f = f' + 1 := ⟨f - 1, by omega⟩
    by_cases h60 : 60 < j
    · have h60' : -(j : Int) < -60 := by omega
      obtain ⟨n1, n2, n3, n4, -⟩ := rsF_nrm 60 (by omega) (by omega) t.1 t.2.1 t.2.2 HNRM.out
      have N1 := Lib.hid n1
      have N2 := Lib.hid n2
      clear n1 n2
      go_wp2_with fail
      refine (rs_dec _ g t.1 t.2.1 ng t.2.2 60 HDEC.out HNRM.out (by omega) (by omega) (by omega) (by omega)).mono ?_
      rintro e w1 ⟨rfl, hdec', hon'⟩
      have HD' := Lib.hid hdec'
      have HO' := Lib.hid hon'
      clear hdec' hon'
      go_wp2
      go_roundg (j - 60)
      case measure => have := HM.out; omega
      case rel =>
        refine ⟨j - 60, f', _, by go_num, rfl, by omega, by omega, by omega, ?_, HD'.out, N1.out, by rw [N2.out]; omega, by rw [N2.out]; omega, HON.out.trans HO'.out⟩
        rw [HSH.out, shR, if_pos h60]
    · have h60' : -60 ≤ -(j : Int) := by omega
      have hj0' : -(j : Int) < 0 := by omega
      have hnn : - -(j : Int) = j := by omega
      go_wp2_with fail
      refine (rs_dec _ g t.1 t.2.1 ng t.2.2 j HDEC.out HNRM.out hj0 (by omega) (by omega) (by omega)).mono ?_
      rintro e w1 ⟨rfl, hdec', hon'⟩
      have HD' := Lib.hid hdec'
      have HO' := Lib.hid hon'
      clear hdec' hon'
      go_wp2
      go_end0
      rw [HSH.out, shR, if_neg h60]
      exact ⟨rfl, HD'.out, HON.out.trans HO'.out⟩
end Go.Proofs.YthfjakbpeclfcaaGreatDoor

namespace Go.Proofs.YthfjakbpeclfcaaGreatDoor
open Go.RowKit Go

def pw : List Nat := [1, 3, 6, 9, 13, 16, 19, 23, 26]
def nn (dp : Int) : Nat := if 9 ≤ dp then 27 else pw.getD dp.toNat 1
theorem nn_facts (dp : Int) (h : 0 ≤ dp) : 1 ≤ nn dp ∧ nn dp ≤ 27 ∧ (0 < dp → 3 ≤ nn dp) := by
  unfold nn
  split
  · omega
  · obtain ⟨m, rfl⟩ := Int.eq_ofNat_of_zero_le h
    have : m < 9 := by omega
    match m, this with
    | 0, _ => decide
    | 1, _ => decide
    | 2, _ => decide
    | 3, _ => decide
    | 4, _ => decide
    | 5, _ => decide
    | 6, _ => decide
    | 7, _ => decide
    | 8, _ => decide
theorem nn_zero : nn 0 = 1 := rfl
def f1 : Nat → St → Int → St × Int
  | 0, s, e => (s, e)
  | f + 1, s, e => if 0 < s.2.1 then f1 f (shR (nn s.2.1) (nn s.2.1) s) (e + nn s.2.1) else (s, e)
def lo2 (s : St) : Bool := decide (s.2.1 < 0) || (decide (s.2.1 = 0) && decide (s.1.headD 48 < 53))
def f2 : Nat → St → Int → St × Int
  | 0, s, e => (s, e)
  | f + 1, s, e => if lo2 s then f2 f (shL (nn (-s.2.1)) (nn (-s.2.1)) s) (e - nn (-s.2.1)) else (s, e)
def m1 (s : St) : Nat := 2 * s.2.1.toNat + (if 56 ≤ s.1.headD 48 then 1 else 0)
def m2 (s : St) : Nat := 10 * (-s.2.1).toNat + (57 - s.1.headD 48).toNat
theorem shR_small {k : Nat} (h0 : 0 < k) (h : k ≤ 60) (s : St) : shR k k s = rsF k s.1 s.2.1 s.2.2 := by
  obtain ⟨j, rfl⟩ : ∃ j, k = j + 1 := ⟨k - 1, by omega⟩
  rw [shR, if_neg (by omega)]
theorem shL_small {k : Nat} (h0 : 0 < k) (h : k ≤ 60) (s : St) : shL k k s = lsF k s.1 s.2.1 s.2.2 := by
  obtain ⟨j, rfl⟩ : ∃ j, k = j + 1 := ⟨k - 1, by omega⟩
  rw [shL, if_neg (by omega)]
theorem Nrm.head {L : List Int} (h : Nrm L) : 49 ≤ L.headD 48 ∧ L.headD 48 ≤ 57 := by
  have h1 := h.dg
  have h2 := h.hd
  have h3 := h.ne
  cases L with
  | nil => exact absurd rfl h3
  | cons c cs =>
    have := h1 c (List.mem_cons_self ..)
    simp only [List.headD_cons] at h2 ⊢
    omega
theorem f1_step (s : St) (h : Nrm s.1) (hp : 0 < s.2.1) : Nrm (shR (nn s.2.1) (nn s.2.1) s).1 ∧ m1 (shR (nn s.2.1) (nn s.2.1) s) < m1 s ∧
    (shR (nn s.2.1) (nn s.2.1) s).2.1 ≤ s.2.1 ∧ s.2.1 - 820 ≤ (shR (nn s.2.1) (nn s.2.1) s).2.1 := by
  obtain ⟨L, dp, tr⟩ := s
  dsimp only at h hp ⊢
  obtain ⟨c, cs, rfl⟩ : ∃ c cs, L = c :: cs := by
    have := h.ne
    cases L with
    | nil => exact absurd rfl this
    | cons c cs => exact ⟨c, cs, rfl⟩
  obtain ⟨a1, a2, a3⟩ := nn_facts dp (by omega)
  have a3 := a3 hp
  rw [shR_small a1 (by omega)]
  dsimp only
  generalize nn dp = k at *
  obtain ⟨b1, b2, b3, b4, b5⟩ := rsF_nrm k a1 (by omega) (c :: cs) dp tr h
  refine ⟨b1, ?_, by omega, by omega⟩
  have hb := b1.head
  have hh := h.head
  simp only [List.headD_cons] at hh
  have hm : m1 (c :: cs, dp, tr) = 2 * dp.toNat + (if 56 ≤ c then 1 else 0) := rfl
  rw [hm]
  unfold m1
  by_cases hr : (rsA k (c :: cs)).2.2 = 1
  · have e1 := rsA_one k c cs h.dg hr
    have e2 := rsA_big k (by omega) c cs h.dg (by omega)
    rw [e1] at b5 e2
    have hp8 : (8 : Int) ≤ 2 ^ k := by
      have : (2 : Int) ^ 3 ≤ 2 ^ k := by exact_mod_cast Nat.pow_le_pow_right (by decide) a3
      simpa using this
    have hc8 : 8 ≤ c - 48 := by
      by_cases hlt : c - 48 < 8
      · exact absurd (Int.ediv_eq_zero_of_lt (by omega) (by omega)) e2
      · omega
    have hle : (c - 48) / 2 ^ k ≤ 1 := by
      have : (c - 48) / 2 ^ k < 2 := Int.ediv_lt_of_lt_mul (by omega) (by omega)
      omega
    rw [if_neg (by omega), if_pos (by omega), b2, hr]
    omega
  · split <;> split <;> omega
theorem lsF_zero (s : St) (h : s.1.headD 48 < 53) (hn : Nrm s.1) : dlt 1 s.1 = 0 := by
  have hh := hn.head
  have hne := hn.ne
  cases hs : s.1 with
  | nil => exact absurd hs hne
  | cons c cs =>
    rw [hs] at h hh
    simp only [List.headD_cons] at h hh
    have e : chS 1 = [53] := by decide
    have e2 : chD 1 = 1 := by decide
    unfold dlt
    rw [e, e2]
    have : lexLt (c :: cs) [53] = true := by
      unfold lexLt
      rw [if_neg (by simp; omega)]
      simp
      omega
    rw [if_pos this]
theorem f2_step (s : St) (h : Nrm s.1) (hp : lo2 s = true) : Nrm (shL (nn (-s.2.1)) (nn (-s.2.1)) s).1 ∧ m2 (shL (nn (-s.2.1)) (nn (-s.2.1)) s) < m2 s ∧
    s.2.1 ≤ (shL (nn (-s.2.1)) (nn (-s.2.1)) s).2.1 ∧ (shL (nn (-s.2.1)) (nn (-s.2.1)) s).2.1 ≤ s.2.1 + 61 := by
  have hp' : s.2.1 < 0 ∨ s.2.1 = 0 ∧ s.1.headD 48 < 53 := by
    unfold lo2 at hp
    simpa using hp
  obtain ⟨a1, a2, a3⟩ := nn_facts (-s.2.1) (by omega)
  rw [shL_small a1 (by omega)]
  obtain ⟨b1, b2, b3, b4⟩ := lsF_nrm (nn (-s.2.1)) a1 (by omega) s.1 s.2.1 s.2.2 h
  have hb := b1.head
  have hh := h.head
  refine ⟨b1, ?_, by omega, by omega⟩
  unfold m2
  by_cases hd : dlt (nn (-s.2.1)) s.1 = 0
  · have b4 := b4 hd
    rw [b2, hd]
    omega
  · have hneg : s.2.1 < 0 := by
      rcases hp' with h1 | ⟨h1, h2⟩
      · exact h1
      · rw [h1] at hd
        exact absurd (lsF_zero s h2 h) hd
    rw [b2]
    omega

theorem shR_nrm : ∀ (f k : Nat) (s : St), 0 < k → Nrm s.1 → Nrm (shR f k s).1 ∧ s.2.1 - 820 * k ≤ (shR f k s).2.1 ∧ (shR f k s).2.1 ≤ s.2.1
  | 0, k, s, h0, h => ⟨h, by show s.2.1 - 820 * k ≤ s.2.1; omega, Int.le_refl _⟩
  | f + 1, k, s, h0, h => by
    rw [shR]
    split
    · rename_i hk
      obtain ⟨b1, b2, b3, b4, -⟩ := rsF_nrm 60 (by omega) (by omega) s.1 s.2.1 s.2.2 h
      obtain ⟨c1, c2, c3⟩ := shR_nrm f (k - 60) (rsF 60 s.1 s.2.1 s.2.2) (by omega) b1
      exact ⟨c1, by omega, by omega⟩
    · obtain ⟨b1, b2, b3, b4, -⟩ := rsF_nrm k (by omega) (by omega) s.1 s.2.1 s.2.2 h
      exact ⟨b1, by omega, by omega⟩
theorem shL_nrm : ∀ (f k : Nat) (s : St), 0 < k → Nrm s.1 → Nrm (shL f k s).1 ∧ s.2.1 ≤ (shL f k s).2.1 ∧ (shL f k s).2.1 ≤ s.2.1 + 61 * k
  | 0, k, s, h0, h => ⟨h, Int.le_refl _, by show s.2.1 ≤ s.2.1 + 61 * k; omega⟩
  | f + 1, k, s, h0, h => by
    rw [shL]
    split
    · rename_i hk
      obtain ⟨b1, b2, b3, -⟩ := lsF_nrm 60 (by omega) (by omega) s.1 s.2.1 s.2.2 h
      obtain ⟨c1, c2, c3⟩ := shL_nrm f (k - 60) (lsF 60 s.1 s.2.1 s.2.2) (by omega) b1
      exact ⟨c1, by omega, by omega⟩
    · obtain ⟨b1, b2, b3, -⟩ := lsF_nrm k (by omega) (by omega) s.1 s.2.1 s.2.2 h
      exact ⟨b1, by omega, by omega⟩

/-- The pure end of floatBits. -/
def fb6 (m e : Int) : Int × Int × Bool := if bits .and .u64 m 4503599627370496 = 0 then (m, -1023, false) else (m, e, false)
def fb5 (m e : Int) : Int × Int × Bool :=
  if m = 9007199254740992 then (if 1023 ≤ e then (0, 1024, true) else fb6 4503599627370496 (e + 1)) else fb6 m e
def fb4 (s : St) (e : Int) : Int × Int × Bool := if 1024 ≤ e then (0, 1024, true) else fb5 (riF (shL 53 53 s).1 (shL 53 53 s).2.1 (shL 53 53 s).2.2) e
def fb3 (s : St) (e : Int) : Int × Int × Bool :=
  if e - 1 < -1022 then fb4 (shR (-1022 - (e - 1)).toNat (-1022 - (e - 1)).toNat s) (-1022) else fb4 s (e - 1)
def fb2 (s : St) : Int × Int × Bool := fb3 (f2 9000 (f1 700 s 0).1 (f1 700 s 0).2).1 (f2 9000 (f1 700 s 0).1 (f1 700 s 0).2).2
def fbR (s : St) : Int × Int × Bool :=
  if s.1 = [] then (0, -1023, false) else if 310 < s.2.1 then (0, 1024, true) else if s.2.1 < -330 then (0, -1023, false) else fb2 s
def asm (m e : Int) : Int := bits .or .u64 (bits .and .u64 m 4503599627370495) (IntKind.u64.wrap (IntKind.u64.wrap (bits .and .i64 (e + 1023) 2047) * 4503599627370496))
def asmS (ng : Bool) (m e : Int) : Int := if ng then bits .or .u64 (asm m e) 9223372036854775808 else asm m e
end Go.Proofs.YthfjakbpeclfcaaGreatDoor
