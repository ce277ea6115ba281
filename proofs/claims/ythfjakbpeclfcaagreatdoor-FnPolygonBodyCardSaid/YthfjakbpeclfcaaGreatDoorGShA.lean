/-
  Contracts of the library's bit functions at this program (laid).
  The walks of the library's number functions under ParseFloat's fast road (pack64, uscale, parseFloat64).
-/
import Derived.Shelf.Bits.Mul64
import Derived.Shelf.Strconv.Itoa0
import Derived.Test.YthfjakbpeclfcaaGreatDoorProg
import Derived.WalkKit
import Derived.WalkSpells
import Derived.WalkLawsBesides
import Derived.Outline
import Derived.Laws.Externs
import Derived.Laws.BitsAllLaws
import Derived.Deep.QuietTactic
import Derived.BigQuiet
import Derived.IntWalk
import Derived.Lib.Hide
import Derived.Lib.BitFns
import GoSem.PinnedTables
namespace Go.Proofs
open Go.Shelf
def Tryz.lays129_ren : Go.Shelf.Ren := ⟨fun | 129 => 143 | n => n, fun | 53 => 80 | 3 => 3 | 4 => 4 | 46 => 91 | 5 => 5 | 9 => 9 | n => n, fun | n => n⟩
theorem Tryz.lays129 : Go.Proofs.Lays.n129 Tryz.prog Tryz.lays129_ren := {
  mixed := by kernel_rfl
  f129 := Tryz.func143.trans (congrArg some (by kernel_rfl))
  t3 := Tryz.underlying3
  a3 := Tryz.isAgg3
  z3 := Tryz.sizeOf3
  v3 := Tryz.zeroValue3
  t4 := Tryz.underlying4
  a4 := Tryz.isAgg4
  z4 := Tryz.sizeOf4
  v4 := Tryz.zeroValue4
  t5 := Tryz.underlying5
  a5 := Tryz.isAgg5
  z5 := Tryz.sizeOf5
  v5 := Tryz.zeroValue5
  t9 := Tryz.underlying9
  a9 := Tryz.isAgg9
  z9 := Tryz.sizeOf9
  v9 := Tryz.zeroValue9
  t46 := Tryz.underlying91
  a46 := Tryz.isAgg91
  z46 := Tryz.sizeOf91
  v46 := Tryz.zeroValue91
  t53 := Tryz.underlying80
  a53 := Tryz.isAgg80
  z53 := Tryz.sizeOf80
  v53 := Tryz.zeroValue80 }
/-- bits.Len64: "Len64 returns the minimum number of bits required to represent x; the result is 0 for x == 0.": IT RETURNS 'Lib.bitLen x'; the world is as it was. ('h0', 'h1': x is a uint64.) (LAID: no walk: one application.) -/
theorem Tryz.bits_Len64 (x : Int) (w : World) (h0 : 0 ≤ x) (h1 : x ≤ 18446744073709551615) :
    Calls Tryz.prog 143 #[.int .u64 x] w fun e w' => e = .returned (.int .i64 (Lib.bitLen x.toNat)) ∧ w' = w := Any.bits_Len64 Tryz.lays129 x w h0 h1
def Tryz.lays264_ren : Go.Shelf.Ren := ⟨fun | 264 => 155 | n => n, fun | 53 => 80 | 46 => 91 | n => n, fun | n => n⟩
theorem Tryz.lays264 : Go.Proofs.Lays.n264 Tryz.prog Tryz.lays264_ren := {
  mixed := by kernel_rfl
  f264 := Tryz.func155.trans (congrArg some (by kernel_rfl))
  t46 := Tryz.underlying91
  a46 := Tryz.isAgg91
  z46 := Tryz.sizeOf91
  v46 := Tryz.zeroValue91
  t53 := Tryz.underlying80
  a53 := Tryz.isAgg80
  z53 := Tryz.sizeOf80
  v53 := Tryz.zeroValue80 }
open Go.RowKit Go.Lib in
theorem Tryz.bits_Mul64 (x y : Nat) (hx : x < 18446744073709551616) (hy : y < 18446744073709551616) (w : World) :
    Calls Tryz.prog 155 #[.int .u64 x, .int .u64 y] w fun e w' => e = .returned (.tuple #[.int .u64 ((x * y / 18446744073709551616 : Nat) : Int), .int .u64 ((x * y % 18446744073709551616 : Nat) : Int)]) ∧ w' = w := Any.bits_Mul64 Tryz.lays264 x y hx hy w
end Go.Proofs

namespace Go.Proofs.YthfjakbpeclfcaaGreatDoor
open Go.RowKit Go


theorem ff132 (n : Int) (w : World) : Sem.run Tryz.prog (callFunc 132 #[.int .u64 n]) w = .ok (.value (.float .f64 n.toNat)) w := by
  rw [run_callFunc_extern (e := Extern.MathFloatBits.float64frombits) Tryz.func132 (by kernel_rfl) (by kernel_rfl) (by kernel_rfl) (by kernel_rfl)]
  rfl
attribute [local go_sem] ff132

def pkB (m e : Int) : Nat :=
  if bits .and .u64 m 4503599627370496 = 0 then m.toNat
  else if 972 ≤ e then (bits .or .u64 (bits .and .u64 m 9223372036854775808) 9218868437227405312).toNat
  else (bits .or .u64 (bits .andNot .u64 m 4503599627370496) ((1075 + e) * 4503599627370496)).toNat
def pkE (m e : Int) : Value :=
  if bits .and .u64 m 4503599627370496 = 0 then .nilIface else if 972 ≤ e then .iface 162 (.int .i64 1) else .nilIface

set_option maxHeartbeats 400000 in
set_option maxRecDepth 100000 in
theorem pack64_any (m e : Int) (he : -1075 ≤ e) (he2 : e ≤ 5000) (w : World) :
    Calls Tryz.prog 153 #[.int .u64 m, .int .i64 e] w fun en w' => en = .returned (.tuple #[.float .f64 (pkB m e), pkE m e]) ∧ w = w' := by
  go_enter Tryz.func153, Tryz.ntmps153
  go_wp2
  all_goals (go_ret2; refine ⟨congrArg Ending.returned ?_, rfl⟩; unfold pkB pkE; (repeat' split) <;> first | rfl | (exfalso; simp_all; done) | (exfalso; simp_all; omega) | (simp_all; done))

theorem run_f132 (n : Int) (w : World) : Sem.run Tryz.prog (callFunc 132 #[.int .u64 n]) w = .ok (.value (.float .f64 n.toNat)) w := ff132 n w


def hi64 (x y : Nat) : Nat := x * y / 18446744073709551616
def lo64 (x y : Nat) : Nat := x * y % 18446744073709551616

theorem mul64_h (x y : Nat) (hx : x < 18446744073709551616) (hy : y < 18446744073709551616) (w : World) :
    Calls Tryz.prog 155 #[.int .u64 x, .int .u64 y] w fun e w' => e = .returned (.tuple #[.int .u64 (hi64 x y), .int .u64 (lo64 x y)]) ∧ w = w' :=
  (Tryz.bits_Mul64 x y hx hy w).mono fun _ _ ⟨he, hw⟩ => ⟨he, hw.symm⟩

def b2n (b : Bool) : Nat := if b then 1 else 0
theorem bool2u_any (b : Bool) (w : World) : Calls Tryz.prog 131 #[.bool b] w fun e w' => e = .returned (.int .u64 (b2n b)) ∧ w = w' := by
  cases b <;> (go_enter Tryz.func131, Tryz.ntmps131; go_wp2; go_ret; exact ⟨rfl, rfl⟩)

section
variable {P : Program}
theorem run_shr_nat (x s : Nat) (h : s ≤ 64) (w : World) : Sem.run P (Op.shift .shr .u64 (x : Int) .i64 (s : Int)) w = .ok (.int .u64 ((x / 2 ^ s : Nat) : Int)) w := by
  rw [shift_shr_any _ _ _ _ (by omega), Int.toNat_natCast, show min s IntKind.u64.bits = s from Nat.min_eq_left h]
  simp
theorem run_shl_nat (x s : Nat) (h : s ≤ 64) (w : World) : Sem.run P (Op.shift .shl .u64 (x : Int) .i64 (s : Int)) w = .ok (.int .u64 ((x * 2 ^ s % 18446744073709551616 : Nat) : Int)) w := by
  rw [shift_shl_any _ _ _ _ (by omega), Int.toNat_natCast, show min s IntKind.u64.bits = s from Nat.min_eq_left h, IntKind.wrap_u64]
  simp
end
theorem mask63 (s : Nat) (h : s ≤ 63) : bits .and .i64 (s : Int) 63 = (s : Int) := by
  have := (bits_nat .i64 63 (by decide) (fun n h0 h1 => by rw [IntKind.wrap_i64]; omega) s 63 (by omega) (by decide)).1
  have e : s &&& 63 = s % 64 := Nat.and_two_pow_sub_one_eq_mod s 6
  rw [e, Nat.mod_eq_of_lt (by omega)] at this
  exact this
theorem hi64_lt (x y : Nat) (hx : x < 18446744073709551616) (hy : y < 18446744073709551616) : hi64 x y < 18446744073709551616 := by
  unfold hi64
  exact Nat.div_lt_of_lt_mul (Nat.mul_lt_mul'' hx hy)


def uscaleI (x h l s : Nat) : Int :=
  if (IntKind.u64.wrap ((hi64 x h : Int) / 2 ^ s * 2 ^ s) != (hi64 x h : Int)) = true then bits .or .u64 ((hi64 x h : Int) / 2 ^ s) 1
  else bits .or .u64 (IntKind.u64.wrap ((hi64 x h : Int) - b2n (decide ((lo64 x h : Int) < hi64 x l))) / 2 ^ s) (b2n (decide (1 < IntKind.u64.wrap ((lo64 x h : Int) - hi64 x l))))

set_option maxHeartbeats 400000 in
set_option maxRecDepth 100000 in
theorem uscale_any (x h l s g : Nat) (hx : x < 18446744073709551616) (hh : h < 18446744073709551616) (hll : l < 18446744073709551616) (hs : s ≤ 63) (w : World)
    (c0 : w.cell? ⟨g, 0, none⟩ = some (.int .u64 h)) (c1 : w.cell? ⟨g, 1, none⟩ = some (.int .u64 l)) (c2 : w.cell? ⟨g, 2, none⟩ = some (.int .i64 s)) :
    Calls Tryz.prog 146 #[.int .u64 x, .pointer (some ⟨g, 0, none⟩)] w fun e w' => e = .returned (.int .u64 (uscaleI x h l s)) ∧ ∃ n, w' = w.drewN n := by
  have hm := mask63 s hs
  cases hb : (IntKind.u64.wrap ((hi64 x h : Int) / 2 ^ s * 2 ^ s) != (hi64 x h : Int))
  · have hu : uscaleI x h l s = bits .or .u64 (IntKind.u64.wrap ((hi64 x h : Int) - b2n (decide ((lo64 x h : Int) < hi64 x l))) / 2 ^ s) (b2n (decide (1 < IntKind.u64.wrap ((lo64 x h : Int) - hi64 x l)))) := by
      unfold uscaleI; rw [hb]; rfl
    have HU := Lib.hid hu
    clear hu
    go_enter Tryz.func146, Tryz.ntmps146
    go_wp2_with fail
    refine (mul64_h _ _ hx hh _).mono ?_
    rintro e w1 ⟨rfl, rfl⟩
    go_wp2_with fail
    refine (mul64_h _ _ hx hll _).mono ?_
    rintro e w1 ⟨rfl, rfl⟩
    go_wp2_with (go_at_call 131; refine (bool2u_any _ _).mono ?_; rintro e w' ⟨rfl, rfl⟩)
    go_quiet ((go_at_call 131; exact Calls.quiet_of_same ((bool2u_any _ _).mono fun _ _ ⟨a, b⟩ => ⟨a, b.symm⟩)))
    go_wp2
    go_ret
    exact ⟨congrArg Ending.returned (by rw [HU.out]; simp), _, rfl⟩
  · have hu : uscaleI x h l s = bits .or .u64 ((hi64 x h : Int) / 2 ^ s) 1 := by
      unfold uscaleI; rw [hb]; rfl
    have HU := Lib.hid hu
    clear hu
    go_enter Tryz.func146, Tryz.ntmps146
    go_wp2_with fail
    refine (mul64_h _ _ hx hh _).mono ?_
    rintro e w1 ⟨rfl, rfl⟩
    go_wp2_with fail
    go_ret
    exact ⟨congrArg Ending.returned (by rw [HU.out]; simp), 0, rfl⟩


def p10h (i : Nat) : Nat := (Go.Pinned.pow10Rows.getD i (0, 0)).1
def p10l (i : Nat) : Nat := (Go.Pinned.pow10Rows.getD i (0, 0)).2

theorem len64_h (x : Int) (w : World) (h0 : 0 ≤ x) (h1 : x ≤ 18446744073709551615) :
    Calls Tryz.prog 143 #[.int .u64 x] w fun e w' => e = .returned (.int .i64 (Lib.bitLen x.toNat)) ∧ w = w' :=
  (Tryz.bits_Len64 x w h0 h1).mono fun _ _ ⟨he, hw⟩ => ⟨he, hw.symm⟩


theorem lp_any (p : Int) (h0 : -348 ≤ p) (h1 : p ≤ 347) (w : World) : Calls Tryz.prog 144 #[.int .i64 p] w fun e w' => e = .returned (.int .i64 (p * 108853 / 32768)) ∧ w = w' := by
  go_enter Tryz.func144, Tryz.ntmps144
  go_wp2
  go_ret
  exact ⟨rfl, rfl⟩

def rnd (u : Int) : Int := IntKind.u64.wrap (IntKind.u64.wrap (u + 1) + bits .and .u64 (u / 4) 1) / 4
def half (u : Int) : Int := bits .or .u64 (u / 2) (bits .and .u64 u 1)
def whole (u : Int) : Int := bits .or .u64 u (bits .and .u64 u 1)
theorem rnd_any (u : Int) (w : World) : Calls Tryz.prog 150 #[.int .u64 u] w fun e w' => e = .returned (.int .u64 (rnd u)) ∧ w = w' := by
  go_enter Tryz.func150, Tryz.ntmps150
  go_wp2
  go_ret
  exact ⟨rfl, rfl⟩

attribute [local go_sem] run_f132
theorem pw_below_drewN2 {B : Nat} {w W : World} (h : Below B w W) (n : Nat) : Below B w (W.drewN n) := ⟨h.os, h.tape, h.output, h.size, h.block⟩
set_option maxHeartbeats 800000 in
set_option maxRecDepth 100000 in
theorem parse64_a (d : Nat) (p sign : Int) (i : Nat) (hi : p + 348 = i) (hi2 : i < 696) (hd : d < 18446744073709551616) (b : Nat) (hb : Lib.bitLen d = b) (hb1 : 1 ≤ b) (hb2 : b ≤ 64)
    (lp : Int) (hlp : p * 108853 / 32768 = lp) (X : Nat) (hX : IntKind.u64.wrap ((d : Int) * 2 ^ (64 - b)) = ((X : Nat) : Int)) (hX2 : X < 18446744073709551616)
    (hh : p10h i < 18446744073709551616) (hl : p10l i < 18446744073709551616)
    (s : Nat) (e : Int) (hse : (e = 53 - b - lp ∧ s = 8 ∧ e < 1074) ∨ (e = 1074 ∧ s + 1013 = 0 - b - lp ∧ 1074 ≤ 53 - b - lp)) (w : World) (hg : 14 < w.heap.size)
    (hp : w.cell? ⟨14, i * 2, none⟩ = some (.int .u64 (p10h i)) ∧ w.cell? ⟨14, i * 2 + 1, none⟩ = some (.int .u64 (p10l i)))
    (u : Int) (hU : uscaleI X (p10h i) (p10l i) s = u) (hu0 : 0 ≤ u) (hu1 : u < 72057594037927934) (r : Nat) (v : Value)
    (hr : s < 64 → (36028797018963966 ≤ u ∧ r = pkB (bits .or .u64 sign (rnd (half u))) (-(e - 1)) ∧ v = pkE (bits .or .u64 sign (rnd (half u))) (-(e - 1))) ∨
       (u < 36028797018963966 ∧ r = pkB (bits .or .u64 sign (rnd (whole u))) (-e) ∧ v = pkE (bits .or .u64 sign (rnd (whole u))) (-e)))
    (hr2 : 64 ≤ s → r = (bits .or .u64 sign 0).toNat ∧ v = .nilIface) :
    Calls Tryz.prog 134 #[.int .u64 d, .int .i64 p, .int .u64 sign] w fun e w' => e = .returned (.tuple #[.float .f64 r, v]) ∧ Below w.heap.size w w' := by
  have hp0 : -348 ≤ p := by omega
  have hp1 : p ≤ 347 := by omega
  have hlp0 : -1157 ≤ lp := by omega
  have hlp1 : lp ≤ 1153 := by omega
  have hhf : half u = bits .or .u64 (u / 2) (bits .and .u64 u 1) := rfl
  have hwh : whole u = bits .or .u64 u (bits .and .u64 u 1) := rfl
  have HHF := Lib.hid hhf
  have HWH := Lib.hid hwh
  have HB := Lib.hid hb
  have HLP := Lib.hid hlp
  have HU := Lib.hid hU
  have HX := Lib.hid hX
  have HR := Lib.hid hr
  have HR2 := Lib.hid hr2
  clear hb hlp hU hX hhf hwh hr hr2
  obtain ⟨hc1, hc2⟩ := hp
  have hip0 : 0 ≤ p + 348 := by omega
  have hip1 : p + 348 < 696 := by omega
  have HI : (p + 348).toNat = i := by omega
  clear hi
  have HE := Lib.hid hse
  have he0 : -1206 ≤ e ∧ e ≤ 1074 := by omega
  obtain ⟨he1, he2⟩ := he0
  have hbl : (e + 53 - b - lp) = (e + 53 - b - lp) := rfl
  have hmin : 53 - (b : Int) - lp < 1074 ∨ ¬ 53 - (b : Int) - lp < 1074 := by omega
  clear hse hbl
  go_enter Tryz.func134, Tryz.ntmps134
  rcases hmin with hm | hm
  · have hs8 : s = 8 := by rcases HE.out with h | h <;> omega
    have hee : e = 53 - b - lp := by rcases HE.out with h | h <;> omega
    have HEE := Lib.hid hee
    subst hs8
    clear hee
    have hmn : min (1074 : Int) (53 - b - lp) = 53 - b - lp := by omega
    go_wp2_with (first | (go_at_call 143; refine (len64_h _ _ (by omega) (by omega)).mono ?_; rintro e w' ⟨rfl, rfl⟩; rw [Int.toNat_natCast, HB.out]) | (go_at_call 144; refine (lp_any _ (by omega) (by omega) _).mono ?_; rintro e w' ⟨rfl, rfl⟩; rw [HLP.out]) | go_in)
    rw [← HEE.out]
    have hs : -(e - (64 - (b : Int)) + lp + 3) = ((8 : Nat) : Int) := by have := HEE.out; omega
    rw [hs]
    clear hs
    go_end0
    have hX := HX.out
    go_wp2_with fail
    clear hX
    refine (uscale_any X (p10h i) (p10l i) 8 w.heap.size hX2 hh hl (by omega) _ (by simp) (by simp) (by simp)).mono ?_
    rintro e1 w1 ⟨rfl, n, rfl⟩
    rw [HU.out]
    rcases HR.out (by omega) with ⟨hu2, hr, hv⟩ | ⟨hu2, hr, hv⟩
    · have HRV := Lib.hid hr
      have HVV := Lib.hid hv
      clear hr hv
      go_wp2_with (first | (go_at_call 150; refine (rnd_any _ _).mono ?_; rintro e w' ⟨rfl, rfl⟩; rw [← HHF.out]) | (go_at_call 153; refine (pack64_any _ _ (by omega) (by omega) _).mono ?_; rintro e w' ⟨rfl, rfl⟩; rw [← HRV.out, ← HVV.out]) | go_in)
      go_ret2
      exact ⟨rfl, pw_below_drewN2 ((Below.refl _ _).alloc (Nat.le_refl _) _) n⟩
    · have HRV := Lib.hid hr
      have HVV := Lib.hid hv
      clear hr hv
      go_wp2_with (first | (go_at_call 150; refine (rnd_any _ _).mono ?_; rintro e w' ⟨rfl, rfl⟩; rw [← HWH.out]) | (go_at_call 153; refine (pack64_any _ _ (by omega) (by omega) _).mono ?_; rintro e w' ⟨rfl, rfl⟩; rw [← HRV.out, ← HVV.out]) | go_in)
      go_ret2
      exact ⟨rfl, pw_below_drewN2 ((Below.refl _ _).alloc (Nat.le_refl _) _) n⟩
  · have hee : e = 1074 := by rcases HE.out with h | h <;> omega
    subst hee
    have hm' : 1074 ≤ 53 - (b : Int) - lp := by omega
    have hmn : min (1074 : Int) (53 - b - lp) = 1074 := by omega
    clear hm
    go_wp2_with (first | (go_at_call 143; refine (len64_h _ _ (by omega) (by omega)).mono ?_; rintro e w' ⟨rfl, rfl⟩; rw [Int.toNat_natCast, HB.out]) | (go_at_call 144; refine (lp_any _ (by omega) (by omega) _).mono ?_; rintro e w' ⟨rfl, rfl⟩; rw [HLP.out]) | go_in)
    have hs : -(1074 - (64 - (b : Int)) + lp + 3) = ((s : Nat) : Int) := by rcases HE.out with h | h <;> omega
    rw [hs]
    clear hs
    go_end0
    by_cases h64 : s < 64
    · have h64' : (s : Int) < 64 := by omega
      have hX := HX.out
      go_wp2_with fail
      clear hX
      refine (uscale_any X (p10h i) (p10l i) s w.heap.size hX2 hh hl (by omega) _ (by simp) (by simp) (by simp)).mono ?_
      rintro e1 w1 ⟨rfl, n, rfl⟩
      rw [HU.out]
      rcases HR.out (by omega) with ⟨hu2, hr, hv⟩ | ⟨hu2, hr, hv⟩
      · rw [show (-((1074 : Int) - 1)) = -1073 from rfl] at hr hv
        have HRV := Lib.hid hr
        have HVV := Lib.hid hv
        clear hr hv
        go_wp2_with (first | (go_at_call 150; refine (rnd_any _ _).mono ?_; rintro e w' ⟨rfl, rfl⟩; rw [← HHF.out]) | (go_at_call 153; refine (pack64_any _ _ (by omega) (by omega) _).mono ?_; rintro e w' ⟨rfl, rfl⟩; rw [← HRV.out, ← HVV.out]) | go_in)
        go_ret2
        exact ⟨rfl, pw_below_drewN2 ((Below.refl _ _).alloc (Nat.le_refl _) _) n⟩
      · have HRV := Lib.hid hr
        have HVV := Lib.hid hv
        clear hr hv
        go_wp2_with (first | (go_at_call 150; refine (rnd_any _ _).mono ?_; rintro e w' ⟨rfl, rfl⟩; rw [← HWH.out]) | (go_at_call 153; refine (pack64_any _ _ (by omega) (by omega) _).mono ?_; rintro e w' ⟨rfl, rfl⟩; rw [← HRV.out, ← HVV.out]) | go_in)
        go_ret2
        exact ⟨rfl, pw_below_drewN2 ((Below.refl _ _).alloc (Nat.le_refl _) _) n⟩
    · have h64' : 64 ≤ (s : Int) := by omega
      obtain ⟨hr, hv⟩ := HR2.out (by omega)
      have HRV := Lib.hid hr
      subst hv
      clear hr
      go_wp2
      rw [← HRV.out]
      go_ret2
      exact ⟨rfl, (Below.refl _ _).alloc (Nat.le_refl _) _⟩
end Go.Proofs.YthfjakbpeclfcaaGreatDoor
