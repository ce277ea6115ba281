/-
  Words for the memory of the library's decimal numbers: a struct of 800 digits and four fields in one block.
  The library's rightShift of a decimal: what it does to the digits.
-/
import Derived.Test.YthfjakbpeclfcaaGreatDoorProg
import Derived.WalkKit
import Derived.WalkSpells
import Derived.WalkLawsBesides
import Derived.Outline
import Derived.Deep.QuietTactic
import Derived.BigQuiet
import Derived.IntWalk
import Derived.Lib.Hide
import Derived.Deep.LoopGhost
import Derived.Laws.Rows
import Derived.Laws.BitsAllLaws
import Derived.Deep.DeepCutAuto
import Derived.Deep.CutBlock
namespace Go.Proofs.YthfjakbpeclfcaaGreatDoor
open Go.RowKit Go

/-- Block g is a decimal: its 800 digit cells are told by D, then the number of digits, the point, the sign and the mark. -/
structure RawAt (w : World) (g : Nat) (D : Nat → Int) (nd dp : Int) (ng tr : Bool) : Prop where
  ex : ∃ A : Array Value, w.heap[g]? = some (.cells A 208 (0, 0)) ∧ A.size = 804 ∧ (∀ i, i < 800 → A[i]? = some (.int .u8 (D i))) ∧
    A[800]? = some (.int .i64 nd) ∧ A[801]? = some (.int .i64 dp) ∧ A[802]? = some (.bool ng) ∧ A[803]? = some (.bool tr)

def upd (D : Nat → Int) (i : Nat) (x : Int) : Nat → Int := fun j => if j = i then x else D j

section
variable {w w' : World} {g : Nat} {D : Nat → Int} {nd dp : Int} {ng tr : Bool}
theorem cell_blk {A : Array Value} {t : TypeId} {f : Nat × Nat} (h : w.heap[g]? = some (.cells A t f)) (i : Nat) : w.cell? ⟨g, i, none⟩ = A[i]? := by
  simp [World.cell?, h]
theorem frozen_blk {A : Array Value} {t : TypeId} (h : w.heap[g]? = some (.cells A t (0, 0))) (i : Nat) : w.frozen? ⟨g, i, none⟩ = false := by
  simp [World.frozen?, h]
theorem set_blk {A : Array Value} {t : TypeId} {f : Nat × Nat} (h : w.heap[g]? = some (.cells A t f)) (i : Nat) (v : Value) :
    (w.setCell ⟨g, i, none⟩ v).heap[g]? = some (.cells (A.setIfInBounds i v) t f) := by
  simp [World.setCell, Array.getElem?_modify, h]
theorem RawAt.dig (h : RawAt w g D nd dp ng tr) {i : Nat} (hi : i < 800) : w.cell? ⟨g, i, none⟩ = some (.int .u8 (D i)) := by
  obtain ⟨A, hA, hs, hd, _⟩ := h.ex
  exact (cell_blk hA i).trans (hd i hi)
theorem RawAt.cnd (h : RawAt w g D nd dp ng tr) : w.cell? ⟨g, 800, none⟩ = some (.int .i64 nd) := by
  obtain ⟨A, hA, hs, hd, h0, _⟩ := h.ex
  exact (cell_blk hA _).trans h0
theorem RawAt.cdp (h : RawAt w g D nd dp ng tr) : w.cell? ⟨g, 801, none⟩ = some (.int .i64 dp) := by
  obtain ⟨A, hA, hs, hd, h0, h1, _⟩ := h.ex
  exact (cell_blk hA _).trans h1
theorem RawAt.cng (h : RawAt w g D nd dp ng tr) : w.cell? ⟨g, 802, none⟩ = some (.bool ng) := by
  obtain ⟨A, hA, hs, hd, h0, h1, h2, _⟩ := h.ex
  exact (cell_blk hA _).trans h2
theorem RawAt.ctr (h : RawAt w g D nd dp ng tr) : w.cell? ⟨g, 803, none⟩ = some (.bool tr) := by
  obtain ⟨A, hA, hs, hd, h0, h1, h2, h3⟩ := h.ex
  exact (cell_blk hA _).trans h3
theorem RawAt.frz (h : RawAt w g D nd dp ng tr) (i : Nat) : w.frozen? ⟨g, i, none⟩ = false := by
  obtain ⟨A, hA, _⟩ := h.ex
  exact frozen_blk hA i
theorem RawAt.drewN (h : RawAt w g D nd dp ng tr) (n : Nat) : RawAt (w.drewN n) g D nd dp ng tr := ⟨h.ex⟩
theorem RawAt.drew (h : RawAt w g D nd dp ng tr) : RawAt w.drew g D nd dp ng tr := ⟨h.ex⟩
theorem RawAt.lt (h : RawAt w g D nd dp ng tr) : g < w.heap.size := by
  obtain ⟨A, hA, _⟩ := h.ex
  exact (Array.getElem?_eq_some_iff.1 hA).1
theorem RawAt.below {B : Nat} (h : RawAt w g D nd dp ng tr) (hb : Below B w w') (hg : g < B) : RawAt w' g D nd dp ng tr := by
  obtain ⟨A, hA, r⟩ := h.ex
  exact ⟨A, (hb.block g hg).trans hA, r⟩
theorem RawAt.setDig (h : RawAt w g D nd dp ng tr) {i : Nat} (hi : i < 800) (x : Int) : RawAt (w.setCell ⟨g, i, none⟩ (.int .u8 x)) g (upd D i x) nd dp ng tr := by
  obtain ⟨A, hA, hs, hd, h0, h1, h2, h3⟩ := h.ex
  refine ⟨_, set_blk hA i _, by simp [hs], ?_, ?_, ?_, ?_, ?_⟩
  · intro j hj
    rw [Array.getElem?_setIfInBounds]
    unfold upd
    by_cases e : i = j
    · subst e; simp [hs]; omega
    · rw [if_neg e, if_neg (Ne.symm e)]; exact hd j hj
  all_goals (rw [Array.getElem?_setIfInBounds, if_neg (by omega)]; assumption)
theorem RawAt.setNd (h : RawAt w g D nd dp ng tr) (x : Int) : RawAt (w.setCell ⟨g, 800, none⟩ (.int .i64 x)) g D x dp ng tr := by
  obtain ⟨A, hA, hs, hd, h0, h1, h2, h3⟩ := h.ex
  refine ⟨_, set_blk hA 800 _, by simp [hs], fun j hj => ?_, ?_, ?_, ?_, ?_⟩
  · rw [Array.getElem?_setIfInBounds, if_neg (by omega)]; exact hd j hj
  · rw [Array.getElem?_setIfInBounds, if_pos rfl, if_pos (by omega)]
  all_goals (rw [Array.getElem?_setIfInBounds, if_neg (by omega)]; assumption)
theorem RawAt.setDp (h : RawAt w g D nd dp ng tr) (x : Int) : RawAt (w.setCell ⟨g, 801, none⟩ (.int .i64 x)) g D nd x ng tr := by
  obtain ⟨A, hA, hs, hd, h0, h1, h2, h3⟩ := h.ex
  refine ⟨_, set_blk hA 801 _, by simp [hs], fun j hj => ?_, ?_, ?_, ?_, ?_⟩
  · rw [Array.getElem?_setIfInBounds, if_neg (by omega)]; exact hd j hj
  · rw [Array.getElem?_setIfInBounds, if_neg (by omega)]; assumption
  · rw [Array.getElem?_setIfInBounds, if_pos rfl, if_pos (by omega)]
  all_goals (rw [Array.getElem?_setIfInBounds, if_neg (by omega)]; assumption)
theorem RawAt.setNg (h : RawAt w g D nd dp ng tr) (x : Bool) : RawAt (w.setCell ⟨g, 802, none⟩ (.bool x)) g D nd dp x tr := by
  obtain ⟨A, hA, hs, hd, h0, h1, h2, h3⟩ := h.ex
  refine ⟨_, set_blk hA 802 _, by simp [hs], fun j hj => ?_, ?_, ?_, ?_, ?_⟩
  · rw [Array.getElem?_setIfInBounds, if_neg (by omega)]; exact hd j hj
  · rw [Array.getElem?_setIfInBounds, if_neg (by omega)]; assumption
  · rw [Array.getElem?_setIfInBounds, if_neg (by omega)]; assumption
  · rw [Array.getElem?_setIfInBounds, if_pos rfl, if_pos (by omega)]
  all_goals (rw [Array.getElem?_setIfInBounds, if_neg (by omega)]; assumption)
theorem RawAt.setTr (h : RawAt w g D nd dp ng tr) (x : Bool) : RawAt (w.setCell ⟨g, 803, none⟩ (.bool x)) g D nd dp ng x := by
  obtain ⟨A, hA, hs, hd, h0, h1, h2, h3⟩ := h.ex
  refine ⟨_, set_blk hA 803 _, by simp [hs], fun j hj => ?_, ?_, ?_, ?_, ?_⟩
  · rw [Array.getElem?_setIfInBounds, if_neg (by omega)]; exact hd j hj
  · rw [Array.getElem?_setIfInBounds, if_neg (by omega)]; assumption
  · rw [Array.getElem?_setIfInBounds, if_neg (by omega)]; assumption
  · rw [Array.getElem?_setIfInBounds, if_neg (by omega)]; assumption
  · rw [Array.getElem?_setIfInBounds, if_pos rfl, if_pos (by omega)]
end

/-- From w to w' only block g was written (and orders were drawn). -/
structure Only (g : Nat) (w w' : World) : Prop where
  os : w'.os = w.os
  tape : w'.tape = w.tape
  output : w'.output = w.output
  size : w'.heap.size = w.heap.size
  block : ∀ k, k ≠ g → w'.heap[k]? = w.heap[k]?
section
variable {w w1 w' : World} {g : Nat}
theorem Only.refl (g : Nat) (w : World) : Only g w w := ⟨rfl, rfl, rfl, rfl, fun _ _ => rfl⟩
theorem Only.trans (h : Only g w w1) (k : Only g w1 w') : Only g w w' :=
  ⟨k.os.trans h.os, k.tape.trans h.tape, k.output.trans h.output, k.size.trans h.size, fun i hi => (k.block i hi).trans (h.block i hi)⟩
theorem Only.drewN (h : Only g w w1) (n : Nat) : Only g w (w1.drewN n) := ⟨h.os, h.tape, h.output, h.size, h.block⟩
theorem Only.drew (h : Only g w w1) : Only g w w1.drew := ⟨h.os, h.tape, h.output, h.size, h.block⟩
theorem Only.setCell (h : Only g w w1) (i : Nat) (v : Value) : Only g w (w1.setCell ⟨g, i, none⟩ v) :=
  ⟨h.os, h.tape, h.output, by simp [h.size], fun k hk => (Below.heap_setCell _ _ _ _ hk).trans (h.block k hk)⟩
theorem Only.below (h : Only g w w1) {B : Nat} (hB : B ≤ g) : Below B w w1 :=
  ⟨h.os, h.tape, h.output, Nat.le_of_eq h.size.symm, fun k hk => h.block k (by omega)⟩
theorem Only.cell (h : Only g w w1) {a : Addr} (ha : a.block ≠ g) : w1.cell? a = w.cell? a := World.cell?_of_block (h.block _ ha)
end

def digs (D : Nat → Int) (n : Nat) : List Int := (List.range n).map D
def trimL (L : List Int) : List Int := (L.reverse.dropWhile (· == 48)).reverse
theorem digs_succ (D : Nat → Int) (n : Nat) : digs D (n + 1) = digs D n ++ [D n] := by simp [digs, List.range_succ]
theorem digs_length (D : Nat → Int) (n : Nat) : (digs D n).length = n := by simp [digs]
theorem trimL_zero (L : List Int) : trimL (L ++ [48]) = trimL L := by simp [trimL]
theorem trimL_stop (L : List Int) (x : Int) (h : x ≠ 48) : trimL (L ++ [x]) = L ++ [x] := by
  simp [trimL, h]
theorem trimL_digs (D : Nat → Int) (n m : Nat) (hnm : n ≤ m) (hz : ∀ i, n ≤ i → i < m → D i = 48) (hs : n = 0 ∨ D (n - 1) ≠ 48) : trimL (digs D m) = digs D n := by
  induction m with
  | zero => obtain rfl : n = 0 := by omega
            rfl
  | succ m ih =>
    by_cases e : n = m + 1
    · subst e
      have hne : D m ≠ 48 := by
        rcases hs with h | h
        · omega
        · simpa using h
      rw [digs_succ, trimL_stop _ _ hne]
    · rw [digs_succ, hz m (by omega) (by omega), trimL_zero]
      exact ih (by omega) fun i h1 h2 => hz i h1 (by omega)
theorem digs_congr {D E : Nat → Int} {n : Nat} (h : ∀ i, i < n → D i = E i) : digs D n = digs E n := by
  unfold digs
  exact List.map_congr_left fun i hi => h i (List.mem_range.1 hi)
theorem digs_get (D : Nat → Int) {n i : Nat} (h : i < n) : (digs D n)[i]? = some (D i) := by
  simp [digs, List.getElem?_range h]

set_option maxHeartbeats 1000000 in
set_option maxRecDepth 100000 in
theorem trim_any (w : World) (g : Nat) (D : Nat → Int) (nd : Nat) (dp : Int) (ng tr : Bool) (h : RawAt w g D nd dp ng tr) (hn : nd ≤ 800) :
    Calls Tryz.prog 164 #[.pointer (some ⟨g, 0, none⟩)] w fun e w' => e = .returned (.tuple #[]) ∧
      ∃ n : Nat, n ≤ nd ∧ digs D n = trimL (digs D nd) ∧ RawAt w' g D n (if n = 0 then 0 else dp) ng tr ∧ Only g w w' := by
  go_enter Tryz.func164, Tryz.ntmps164
  go_wp2
  go_loopg [] (nd) (fun k wr => k ≤ nd ∧ RawAt wr g D k dp ng tr ∧ (∀ i, k ≤ i → i < nd → D i = 48) ∧ Only g w wr)
  case atStart => exact ⟨Nat.le_refl _, h, fun i h1 h2 => by omega, Only.refl _ _⟩
  case round =>
    obtain ⟨hk, hr, hz, ho⟩ := hrel
    have HZ := Lib.hid hz
    have cnd := hr.cnd
    have cdp := hr.cdp
    have fz := hr.frz 800
    have fz1 := hr.frz 801
    have HR := Lib.hid hr
    have HO := Lib.hid ho
    clear hz hr ho
    by_cases h0 : gk = 0
    · subst h0
      have hd : decide ((0 : Int) < ((0 : Nat) : Int)) = false := rfl
      go_wp2
      go_quiet (fail)
      go_wp2
      go_end0
      exact ⟨rfl, 0, by omega, (trimL_digs D 0 nd (Nat.zero_le _) HZ.out (.inl rfl)).symm, by rw [if_pos rfl]; exact (HR.out.drewN _).setDp 0, (HO.out.drewN _).setCell _ _⟩
    · obtain ⟨m, rfl⟩ : ∃ m, gk = m + 1 := ⟨gk - 1, by omega⟩
      have cd := HR.out.dig (i := m) (by omega)
      have hp : (0 : Int) < ((m + 1 : Nat) : Int) := by omega
      have hm1 : (((m + 1 : Nat) : Int) - 1) = (m : Int) := by omega
      have hm2 : (m : Int) < 800 := by omega
      by_cases hc : D m = 48
      · have hc' : (D m == 48) = true := by simpa using hc
        have HC := Lib.hid hc
        clear hc h0
        go_wp2
        go_quiet (fail)
        go_wp2
        go_roundg m
        case measure => omega
        case rel =>
          refine ⟨by omega, (HR.out.drewN _).setNd m, fun i h1 h2 => ?_, (HO.out.drewN _).setCell _ _⟩
          by_cases e : i = m
          · subst e; exact HC.out
          · exact HZ.out i (by omega) h2
      · have hc' : (D m == 48) = false := by simpa using hc
        have HC := Lib.hid hc
        have hz0 : ((((m + 1 : Nat) : Int)) == 0) = false := by simp; omega
        clear hc
        go_wp2
        go_quiet (fail)
        go_wp2
        go_end0
        exact ⟨rfl, m + 1, by omega, (trimL_digs D (m + 1) nd (by omega) HZ.out (.inr (by simpa using HC.out))).symm, by rw [if_neg (by omega)]; exact HR.out.drewN _, HO.out.drewN _⟩
end Go.Proofs.YthfjakbpeclfcaaGreatDoor

namespace Go.Proofs.YthfjakbpeclfcaaGreatDoor
open Go.RowKit Go

def rs1 (k : Nat) : List Int → Int → Int × List Int
  | [], n => (n, [])
  | c :: cs, n => if n / 2 ^ k = 0 then rs1 k cs (n * 10 + c - 48) else (n, c :: cs)
def up10 (k : Nat) : Nat → Int → Nat → Int × Nat
  | 0, n, m => (n, m)
  | f + 1, n, m => if n / 2 ^ k = 0 then up10 k f (n * 10) (m + 1) else (n, m)
def rs3 (k : Nat) : List Int → Int → List Int → List Int × Int
  | [], n, o => (o, n)
  | c :: cs, n, o => rs3 k cs (n % 2 ^ k * 10 + c - 48) (o ++ [n / 2 ^ k + 48])
def rs4 (k : Nat) : Nat → Int → List Int → Bool → List Int × Bool
  | 0, _, o, t => (o, t)
  | f + 1, n, o, t => if n = 0 then (o, t) else rs4 k f (n % 2 ^ k * 10) (if o.length < 800 then o ++ [n / 2 ^ k + 48] else o) (if o.length < 800 then t else t || decide (0 < n / 2 ^ k))

/-- The first number that is great enough, what is left of the digits, and how many were read or made up. -/
def rsA (k : Nat) (L : List Int) : Int × List Int × Nat :=
  if (rs1 k L 0).1 / 2 ^ k = 0 then ((up10 k 20 (rs1 k L 0).1 L.length).1, [], (up10 k 20 (rs1 k L 0).1 L.length).2)
  else ((rs1 k L 0).1, (rs1 k L 0).2, L.length - (rs1 k L 0).2.length)

theorem mask_mod (n : Int) (k : Nat) (h0 : 0 ≤ n) (h1 : n < 18446744073709551616) (hk : k ≤ 60) : bits .and .u64 n (2 ^ k - 1) = n % 2 ^ k := by
  obtain ⟨m, rfl⟩ := Int.eq_ofNat_of_zero_le h0
  have hp : 0 < 2 ^ k := Nat.two_pow_pos k
  have e : ((2 : Int) ^ k - 1) = ((2 ^ k - 1 : Nat) : Int) := by
    have : ((2 ^ k : Nat) : Int) = (2 : Int) ^ k := by simp
    omega
  have hlt : 2 ^ k - 1 < 18446744073709551616 := by
    have : 2 ^ k ≤ 2 ^ 60 := Nat.pow_le_pow_right (by decide) hk
    omega
  rw [e, u64_and_nat m _ (by omega) hlt, Nat.and_two_pow_sub_one_eq_mod]
  simp

theorem rs1_bound (k : Nat) : ∀ (L : List Int) (n : Int), 0 ≤ n → n < 10 * 2 ^ k → (∀ c ∈ L, 48 ≤ c ∧ c ≤ 57) → 0 ≤ (rs1 k L n).1 ∧ (rs1 k L n).1 < 10 * 2 ^ k
  | [], n, h0, h1, _ => ⟨h0, h1⟩
  | c :: cs, n, h0, h1, hL => by
    unfold rs1
    split
    · rename_i h
      have hp : (0 : Int) < 2 ^ k := Int.pow_pos (by decide)
      have hn : n < 2 ^ k := by
        have := Int.emod_add_mul_ediv n (2 ^ k)
        rw [h] at this
        have := Int.emod_lt_of_pos n hp
        omega
      have hc := hL c (by simp)
      exact rs1_bound k cs _ (by omega) (by omega) fun x hx => hL x (by simp [hx])
    · exact ⟨h0, h1⟩

theorem lt_of_div0 {n : Int} {k : Nat} (h : n / 2 ^ k = 0) : n < 2 ^ k := by
  have hp : (0 : Int) < 2 ^ k := Int.pow_pos (by decide)
  have h1 := Int.emod_add_mul_ediv n (2 ^ k)
  rw [h] at h1
  have := Int.emod_lt_of_pos n hp
  omega
theorem pow_le60 {k : Nat} (hk : k ≤ 60) : (2 : Int) ^ k ≤ 1152921504606846976 := by
  have : (2 : Nat) ^ k ≤ 2 ^ 60 := Nat.pow_le_pow_right (by decide) hk
  have e : ((2 ^ k : Nat) : Int) = (2 : Int) ^ k := by simp
  rw [← e]
  have e2 : (2 : Nat) ^ 60 = 1152921504606846976 := by decide
  omega

theorem dvd_step (n : Int) (j k : Nat) (hj : j ≤ k) (h : (2 : Int) ^ j ∣ n) : (2 : Int) ^ (j + 1) ∣ n % 2 ^ k * 10 := by
  have h1 : (2 : Int) ^ j ∣ 2 ^ k := ⟨2 ^ (k - j), by rw [← Int.pow_add, show j + (k - j) = k from by omega]⟩
  have h2 : (2 : Int) ^ j ∣ n % 2 ^ k := by
    rw [Int.emod_def]
    exact Int.dvd_sub h (Int.dvd_mul_of_dvd_left h1)
  rw [Int.pow_succ, show (10 : Int) = 2 * 5 from rfl, ← Int.mul_assoc]
  exact Int.dvd_mul_of_dvd_left (Int.mul_dvd_mul h2 (Int.dvd_refl 2))
theorem rs4_zero (k m : Nat) (o : List Int) (t : Bool) : rs4 k m 0 o t = (o, t) := by
  cases m with
  | zero => rfl
  | succ m => rw [rs4, if_pos rfl]

theorem rs1_suffix (k : Nat) : ∀ (L : List Int) (n : Int), ∃ j, j ≤ L.length ∧ (rs1 k L n).2 = L.drop j
  | [], _ => ⟨0, by simp, rfl⟩
  | c :: cs, n => by
    unfold rs1
    split
    · obtain ⟨j, hj, e⟩ := rs1_suffix k cs (n * 10 + c - 48)
      exact ⟨j + 1, by simpa using hj, by simpa using e⟩
    · exact ⟨0, by simp, rfl⟩
/-- Where the first number is too small, all digits were read. -/
theorem rs1_small (k : Nat) : ∀ (L : List Int) (n : Int), (rs1 k L n).1 / 2 ^ k = 0 → (rs1 k L n).2 = []
  | [], _, _ => rfl
  | c :: cs, n, h => by
    unfold rs1 at h ⊢
    split
    · rename_i h1
      rw [if_pos h1] at h
      exact rs1_small k cs _ h
    · rename_i h1
      rw [if_neg h1] at h
      exact absurd h h1
theorem up10_props (k : Nat) : ∀ (f : Nat) (n : Int) (m : Nat), 0 ≤ n → n < 10 * 2 ^ k →
    0 ≤ (up10 k f n m).1 ∧ (up10 k f n m).1 < 10 * 2 ^ k ∧ m ≤ (up10 k f n m).2 ∧ (up10 k f n m).2 ≤ m + f
  | 0, n, m, h0, h1 => ⟨h0, h1, Nat.le_refl _, Nat.le_refl _⟩
  | f + 1, n, m, h0, h1 => by
    unfold up10
    split
    · rename_i h
      have := lt_of_div0 h
      obtain ⟨a, b, c, d⟩ := up10_props k f (n * 10) (m + 1) (by omega) (by omega)
      exact ⟨a, b, by omega, by omega⟩
    · exact ⟨h0, h1, Nat.le_refl _, by omega⟩
theorem rsA_props (k : Nat) (L : List Int) (hL : ∀ c ∈ L, 48 ≤ c ∧ c ≤ 57) (hne : L ≠ []) :
    0 ≤ (rsA k L).1 ∧ (rsA k L).1 < 10 * 2 ^ k ∧ 1 ≤ (rsA k L).2.2 ∧ (rsA k L).2.2 ≤ L.length + 20 ∧ L.drop (rsA k L).2.2 = (rsA k L).2.1 := by
  have hp : (0 : Int) < 2 ^ k := Int.pow_pos (by decide)
  obtain ⟨b0, b1⟩ := rs1_bound k L 0 (by omega) (by omega) hL
  have hlen : 1 ≤ L.length := List.length_pos_iff.2 hne
  unfold rsA
  split
  · obtain ⟨a, b, c, d⟩ := up10_props k 20 (rs1 k L 0).1 L.length b0 b1
    exact ⟨a, b, by dsimp only; omega, d, List.drop_of_length_le (by dsimp only; omega)⟩
  · refine ⟨b0, b1, ?_, by dsimp only; omega, ?_⟩
    · cases L with
      | nil => exact absurd rfl hne
      | cons c cs =>
        have e : rs1 k (c :: cs) 0 = rs1 k cs (0 * 10 + c - 48) := by
          rw [rs1, if_pos]
          exact Int.ediv_eq_zero_of_lt (Int.le_refl _) hp
        obtain ⟨j, hj, ej⟩ := rs1_suffix k cs (0 * 10 + c - 48)
        rw [e, ej]
        simp
        omega
    · obtain ⟨j, hj, ej⟩ := rs1_suffix k L 0
      rw [ej, List.length_drop, show L.length - (L.length - j) = j from by omega]

/-- What rightShift leaves: digits, point, mark. -/
def rsF (k : Nat) (L : List Int) (dp : Int) (tr : Bool) : List Int × Int × Bool :=
  let a := rsA k L
  let b := rs3 k a.2.1 a.1 []
  let c := rs4 k (k + 1) b.2 b.1 tr
  (trimL c.1, if trimL c.1 = [] then 0 else dp - ((a.2.2 : Int) - 1), c.2)

/-- Block g is a decimal with these digits (as bytes), point, sign, mark. -/
def DecAt (w : World) (g : Nat) (L : List Int) (dp : Int) (ng tr : Bool) : Prop := ∃ D, RawAt w g D L.length dp ng tr ∧ digs D L.length = L
theorem digs_mem {D : Nat → Int} {n : Nat} {c : Int} : c ∈ digs D n ↔ ∃ i, i < n ∧ D i = c := by
  simp [digs]

set_option maxHeartbeats 4000000 in
set_option maxRecDepth 100000 in
theorem rightShift_any (w : World) (g : Nat) (D : Nat → Int) (nd : Nat) (dp : Int) (ng tr : Bool) (k : Nat) (h : RawAt w g D nd dp ng tr) (hn : nd ≤ 800) (hn0 : 0 < nd)
    (hk0 : 0 < k) (hk : k ≤ 60) (hD : ∀ i, i < nd → 48 ≤ D i ∧ D i ≤ 57) (hD0 : D 0 ≠ 48) (hdp0 : -1000000000000 ≤ dp) (hdp1 : dp ≤ 1000000000000) :
    Calls Tryz.prog 157 #[.pointer (some ⟨g, 0, none⟩), .int .u64 k] w fun e w' => e = .returned (.tuple #[]) ∧
      DecAt w' g (rsF k (digs D nd) dp tr).1 (rsF k (digs D nd) dp tr).2.1 ng (rsF k (digs D nd) dp tr).2.2 ∧ Only g w w' := by
  have cnd := h.cnd
  have hp60 := pow_le60 hk
  have hp1 : (1 : Int) ≤ 2 ^ k := Int.pow_pos (by decide)
  have HD := Lib.hid hD
  have HD0 := Lib.hid hD0
  have H := Lib.hid h
  clear h hD hD0
  go_enter Tryz.func157, Tryz.ntmps157
  go_upto_block 0 with fail
  go_cut [4, 6] (fun s4 s6 wx => wx = w ∧ ∃ r : Nat, s4 = .int .i64 r ∧ s6 = .int .u64 (rsA k (digs D nd)).1 ∧ r = (rsA k (digs D nd)).2.2)
  case first =>
    go_wp2_with fail
    go_loopg [4, 6] (nd + 1) (fun m s4 s6 wr => wr = w ∧ ∃ (r : Nat) (n : Int), s4 = .int .i64 r ∧ s6 = .int .u64 n ∧ r ≤ nd ∧ m = nd + 1 - r ∧ rs1 k (digs D nd) 0 = rs1 k ((digs D nd).drop r) n ∧ 0 ≤ n ∧ n < 10 * 2 ^ k ∧ (0 < r → 0 < n))
    case atStart => exact ⟨rfl, 0, 0, rfl, rfl, by omega, rfl, by simp, by omega, by omega, by omega⟩
    case round =>
      obtain ⟨rfl, r, n, rfl, rfl, hr, hm, hrs, hn1, hn2, hn3⟩ := hrel
      have HM := Lib.hid hm
      have HRS := Lib.hid hrs
      have HN3 := Lib.hid hn3
      clear hm hrs hn3
      by_cases hq : n / 2 ^ k = 0
      · have hq' : (n / 2 ^ k == 0) = true := by simpa using hq
        have hlt := lt_of_div0 hq
        by_cases hrn : r < nd
        · have hrn' : (r : Int) < nd := by omega
          have cd := H.out.dig (i := r) (by omega)
          obtain ⟨hd1, hd2⟩ := HD.out r hrn
          have hr8 : (r : Int) < 800 := by omega
          have HQ := Lib.hid hq
          clear hq
          go_wp2
          go_roundg (nd + 1 - (r + 1))
          case measure => have := HM.out; omega
          case rel =>
            refine ⟨rfl, r + 1, n * 10 + D r - 48, by go_num, rfl, by omega, rfl, ?_, by omega, by omega, fun _ => ?_⟩
            · rw [HRS.out]
              have e : (digs D nd).drop r = D r :: (digs D nd).drop (r + 1) := by
                rw [List.drop_eq_getElem_cons (by rw [digs_length]; exact hrn)]
                congr 1
                simp [digs]
              rw [e, rs1, if_pos HQ.out]
            · by_cases h0 : r = 0
              · subst h0
                have := HD0.out
                omega
              · have := HN3.out (by omega)
                omega
        · have hrn' : (nd : Int) ≤ r := by omega
          have hn0' : 0 < n := HN3.out (by omega)
          have hnz : (n == 0) = false := by simp; omega
          have HQ := Lib.hid hq
          clear hq
          have hrnd : r = nd := by omega
          subst hrnd
          go_wp2
          go_loopg [4, 6] 20 (fun f s4 s6 w2 => w2 = wr ∧ ∃ (m : Nat) (n' : Int), s4 = .int .i64 m ∧ s6 = .int .u64 n' ∧ up10 k 20 n r = up10 k f n' m ∧ f ≤ 20 ∧ 10 ^ (20 - f) ≤ n' ∧ n' < 10 * 2 ^ k ∧ m + f ≤ 820)
          case atStart => exact ⟨rfl, r, n, rfl, rfl, rfl, by omega, by simp; omega, hn2, by omega⟩
          case round =>
            obtain ⟨rfl, m, n', rfl, rfl, hup, hf, hten, hlt', hmf⟩ := hrel
            have HUP := Lib.hid hup
            clear hup
            have hpos : 0 < n' := Int.lt_of_lt_of_le (Int.pow_pos (by decide)) hten
            by_cases hq2 : n' / 2 ^ k = 0
            · have hq2' : (n' / 2 ^ k == 0) = true := by simpa using hq2
              have hlt2 := lt_of_div0 hq2
              have HQ2 := Lib.hid hq2
              clear hq2
              obtain ⟨f', rfl⟩ : ∃ f', gk = f' + 1 := by
                refine ⟨gk - 1, ?_⟩
                by_cases h0 : gk = 0
                · subst h0
                  have : (100000000000000000000 : Int) ≤ n' := hten
                  omega
                · omega
              have HT := Lib.hid hten
              clear hten
              go_wp2
              go_roundg f'
              case measure => omega
              case rel =>
                refine ⟨rfl, m + 1, n' * 10, by go_num, rfl, ?_, by omega, ?_, by omega, by omega⟩
                · rw [HUP.out, up10, if_pos HQ2.out]
                · have := HT.out
                  have e : 20 - f' = (20 - (f' + 1)) + 1 := by omega
                  rw [e, Int.pow_succ]
                  omega
            · have hq2' : (n' / 2 ^ k == 0) = false := by simpa using hq2
              have HQ2 := Lib.hid hq2
              have HT := Lib.hid hten
              clear hq2 hten
              go_wp2
              go_meet
              have e1 : (rs1 k (digs D r) 0).1 = n := by
                rw [HRS.out, List.drop_of_length_le (by rw [digs_length]; omega)]
                rfl
              have e2 : up10 k 20 n r = (n', m) := by
                rw [HUP.out]
                cases gk with
                | zero => rfl
                | succ f' => rw [up10, if_neg HQ2.out]
              refine ⟨rfl, m, rfl, ?_, ?_⟩
              · unfold rsA; rw [e1, if_pos HQ.out, digs_length, e2]
              · unfold rsA; rw [e1, if_pos HQ.out, digs_length, e2]
      · have hq' : (n / 2 ^ k == 0) = false := by simpa using hq
        have HQ := Lib.hid hq
        clear hq
        go_wp2
        go_meet
        have e1 : (rs1 k (digs D nd) 0).1 = n ∧ (rs1 k (digs D nd) 0).2 = (digs D nd).drop r := by
          rw [HRS.out]
          cases hd : (digs D nd).drop r with
          | nil => exact ⟨rfl, rfl⟩
          | cons c cs => rw [rs1, if_neg HQ.out]; exact ⟨rfl, rfl⟩
        refine ⟨rfl, r, rfl, ?_, ?_⟩
        · unfold rsA; rw [e1.1, if_neg HQ.out]
        · unfold rsA; rw [e1.1, if_neg HQ.out, e1.2]; simp [digs_length]; omega
  case rest =>
    obtain ⟨rfl, r, rfl, rfl, hr⟩ := hcut
    have HR := Lib.hid hr
    have hpr := rsA_props k (digs D nd) (fun c hc => by obtain ⟨i, hi, rfl⟩ := digs_mem.1 hc; exact HD.out i hi) (fun e => by have := congrArg List.length e; rw [digs_length] at this; simp at this; omega)
    rw [digs_length, ← hr] at hpr
    obtain ⟨hN0, hN9, hr1, hr2, hdrop⟩ := hpr
    have HDROP := Lib.hid hdrop
    clear hdrop
    have cdp := H.out.cdp
    have f1 := H.out.frz 801
    have hpw : IntKind.u64.wrap (1 * 2 ^ k) = 2 ^ k := by rw [IntKind.wrap_u64]; omega
    clear hr
    generalize hN : (rsA k (digs D nd)).1 = N at *
    have HN := Lib.hid hN
    clear hN
    go_upto_block 4 with fail
    go_wp2_with fail
    go_loopg [4, 5, 6] (nd + 1 - r) (fun m s4 s5 s6 wr => ∃ (r' wi : Nat) (n : Int) (E : Nat → Int), s4 = .int .i64 r' ∧ s5 = .int .i64 wi ∧ s6 = .int .u64 n ∧ m = nd + 1 - r' ∧ wi + r = r' ∧ wi ≤ nd ∧
      rs3 k ((digs D nd).drop r) N [] = rs3 k ((digs D nd).drop r') n (digs E wi) ∧ (∀ i, r' ≤ i → i < nd → E i = D i) ∧ 0 ≤ n ∧ n < 10 * 2 ^ k ∧ RawAt wr g E nd (dp - (r - 1)) ng tr ∧ Only g wc wr ∧ (∀ i, i < wi → 48 ≤ E i ∧ E i ≤ 57))
    case atStart => exact ⟨r, 0, N, D, rfl, rfl, rfl, rfl, by omega, by omega, rfl, fun _ _ _ => rfl, hN0, hN9, H.out.setDp _, (Only.refl _ _).setCell _ _, fun i hi => by omega⟩
    case round =>
      obtain ⟨r', wi, n, E, rfl, rfl, rfl, hm, hwr, hwn, hrs, hE, hn1, hn2, hraw, hon, hdg⟩ := hrel
      have cnd := hraw.cnd
      have HM := Lib.hid hm
      have HWR := Lib.hid hwr
      have HRS := Lib.hid hrs
      have HE := Lib.hid hE
      have HRAW := Lib.hid hraw
      have HON := Lib.hid hon
      have HDG := Lib.hid hdg
      clear hm hwr hrs hE hraw hon hdg
      have hmask := mask_mod n k hn1 (by omega) hk
      have hmm0 := Int.emod_nonneg n (show (2 : Int) ^ k ≠ 0 by omega)
      have hmm1 := Int.emod_lt_of_pos n (show (0 : Int) < 2 ^ k by omega)
      have hq0 : 0 ≤ n / 2 ^ k := Int.ediv_nonneg hn1 (by omega)
      have hq9 : n / 2 ^ k ≤ 9 := by
        have : n / 2 ^ k < 10 := Int.ediv_lt_of_lt_mul (by omega) (by omega)
        omega
      obtain ⟨q, hq⟩ : ∃ q, n / 2 ^ k = q := ⟨_, rfl⟩
      obtain ⟨mm, hmmd⟩ : ∃ mm, n % 2 ^ k = mm := ⟨_, rfl⟩
      rw [hmmd] at hmask hmm0 hmm1
      rw [hq] at hq0 hq9
      have HMM := Lib.hid hmmd
      clear hmmd
      have hu8 : IntKind.u8.wrap (q + 48) = q + 48 := by rw [IntKind.wrap_u8]; omega
      by_cases hrn : r' < nd
      · have hrn' : (r' : Int) < nd := by omega
        have cd := HRAW.out.dig (i := r') (by omega)
        have ced : E r' = D r' := HE.out r' (Nat.le_refl _) hrn
        obtain ⟨hd1, hd2⟩ := HD.out r' hrn
        rw [← ced] at hd1 hd2
        have CED := Lib.hid ced
        clear ced
        have hw' : wi < r' := by have := HWR.out; omega
        have hw8 : (wi : Int) < 800 := by omega
        have hr8 : (r' : Int) < 800 := by omega
        have cw := HRAW.out.dig (i := wi) (by omega)
        have fw := HRAW.out.frz wi
        go_wp2
        go_roundg (nd + 1 - (r' + 1))
        case measure => have := HM.out; omega
        case rel =>
          refine ⟨r' + 1, wi + 1, mm * 10 + E r' - 48, upd E wi (q + 48), by go_num, by go_num, rfl, rfl, by have := HWR.out; omega, by omega, ?_, ?_, by omega, by omega, HRAW.out.setDig (by omega) _, HON.out.setCell _ _, ?_⟩
          · rw [HRS.out]
            have e : (digs D nd).drop r' = E r' :: (digs D nd).drop (r' + 1) := by
              rw [List.drop_eq_getElem_cons (by rw [digs_length]; exact hrn), CED.out]
              congr 1
              simp [digs]
            rw [e, rs3, hq, HMM.out, digs_succ]
            congr 2
            · exact digs_congr fun i hi => (if_neg (by omega)).symm
            · simp [upd]
          · intro i h1 h2
            unfold upd
            rw [if_neg (by omega)]
            exact HE.out i (by omega) h2
          · intro i hi
            unfold upd
            split
            · omega
            · exact HDG.out i (by omega)
      · have hrn' : (nd : Int) ≤ r' := by omega
        go_wp2
        have hl3 : rs3 k ((digs D nd).drop r) N [] = (digs E wi, n) := by
          rw [HRS.out, List.drop_of_length_le (by rw [digs_length]; omega)]
          rfl
        have HL3 := Lib.hid hl3
        clear hl3 hmask hu8 cnd hq0 hq9 hmm0 hmm1 hq
        go_loopg [5, 6] (k + 1) (fun m s5 s6 w4 => ∃ (wj : Nat) (n4 : Int) (E4 : Nat → Int) (t4 : Bool), s5 = .int .i64 wj ∧ s6 = .int .u64 n4 ∧ wj ≤ 800 ∧ 0 ≤ n4 ∧ n4 < 10 * 2 ^ k ∧ (2 : Int) ^ (k + 1 - m) ∣ n4 ∧ m ≤ k + 1 ∧
          rs4 k (k + 1) n (digs E wi) tr = rs4 k m n4 (digs E4 wj) t4 ∧ RawAt w4 g E4 nd (dp - (r - 1)) ng t4 ∧ Only g wc w4 ∧ (m = 0 → n4 = 0))
        case atStart => exact ⟨wi, n, E, tr, rfl, rfl, by omega, hn1, hn2, by simp, by omega, rfl, HRAW.out, HON.out, by omega⟩
        case round =>
          obtain ⟨wj, n4, E4, t4, rfl, rfl, hw8, h40, h41, hdv, hm4, hr4, hraw4, hon4, hz4⟩ := hrel
          have fnd := hraw4.frz 800
          have ftr := hraw4.frz 803
          have cnd := hraw4.cnd
          have ctr := hraw4.ctr
          have HDV := Lib.hid hdv
          have HR4 := Lib.hid hr4
          have HRAW4 := Lib.hid hraw4
          have HON4 := Lib.hid hon4
          have HZ4 := Lib.hid hz4
          clear hdv hr4 hraw4 hon4 hz4
          by_cases hn0 : n4 = 0
          · subst hn0
            have hdec : decide ((0 : Int) < 0) = false := rfl
            go_wp2_with (fail)
            have hraw5 := HRAW4.out.setNd wj
            refine (trim_any _ g E4 wj _ ng t4 hraw5 hw8).mono ?_
            rintro e1 w5 ⟨rfl, n5, hn5, htr, hraw6, hon5⟩
            go_wp2
            go_end0
            have hfin : rs4 k (k + 1) n (digs E wi) tr = (digs E4 wj, t4) := by rw [HR4.out, rs4_zero]
            have hF : rsF k (digs D nd) dp tr = (digs E4 n5, (if n5 = 0 then 0 else dp - ((r : Int) - 1)), t4) := by
              unfold rsF
              have e3 : rs3 k (rsA k (digs D nd)).2.1 (rsA k (digs D nd)).1 [] = (digs E wi, n) := by rw [← HDROP.out, HN.out]; exact HL3.out
              dsimp only
              rw [e3]
              dsimp only
              rw [hfin]
              dsimp only
              rw [← htr, ← HR.out]
              congr 2
              by_cases h0 : n5 = 0
              · subst h0; rfl
              · rw [if_neg h0, if_neg]
                intro e
                have := congrArg List.length e
                rw [digs_length] at this
                exact h0 this
            rw [hF]
            refine ⟨rfl, ⟨E4, ?_, ?_⟩, ?_⟩
            · rw [digs_length]; exact hraw6
            · rw [digs_length]
            · exact (HON4.out.setCell _ _).trans hon5
          · have hpos : 0 < n4 := by omega
            have hmask := mask_mod n4 k h40 (by omega) hk
            have hmm0 := Int.emod_nonneg n4 (show (2 : Int) ^ k ≠ 0 by omega)
            have hmm1 := Int.emod_lt_of_pos n4 (show (0 : Int) < 2 ^ k by omega)
            have hq0 : 0 ≤ n4 / 2 ^ k := Int.ediv_nonneg h40 (by omega)
            have hq9 : n4 / 2 ^ k ≤ 9 := by
              have : n4 / 2 ^ k < 10 := Int.ediv_lt_of_lt_mul (by omega) (by omega)
              omega
            obtain ⟨q, hq⟩ : ∃ q, n4 / 2 ^ k = q := ⟨_, rfl⟩
            obtain ⟨mm, hmmd⟩ : ∃ mm, n4 % 2 ^ k = mm := ⟨_, rfl⟩
            rw [hmmd] at hmask hmm0 hmm1
            rw [hq] at hq0 hq9
            have HMM := Lib.hid hmmd
            clear hmmd
            have hu8 : IntKind.u8.wrap (q + 48) = q + 48 := by rw [IntKind.wrap_u8]; omega
            obtain ⟨m', rfl⟩ : ∃ m', gk = m' + 1 := ⟨gk - 1, by have := HZ4.out; omega⟩
            have hdv' : (2 : Int) ^ (k + 1 - m') ∣ mm * 10 ∧ (m' = 0 → mm * 10 = 0) := by
              have e : k + 1 - m' = (k + 1 - (m' + 1)) + 1 := by omega
              refine ⟨?_, fun h0 => ?_⟩
              · rw [e, ← HMM.out]
                exact dvd_step n4 _ k (by omega) HDV.out
              · subst h0
                have hd := HDV.out
                rw [show k + 1 - (0 + 1) = k from by omega] at hd
                have := Int.emod_eq_zero_of_dvd hd
                rw [HMM.out] at this
                omega
            have HDV' := Lib.hid hdv'
            clear hdv'
            have hstep : rs4 k (m' + 1) n4 (digs E4 wj) t4 = rs4 k m' (mm * 10) (if wj < 800 then digs E4 wj ++ [q + 48] else digs E4 wj) (if wj < 800 then t4 else t4 || decide (0 < q)) := by
              rw [rs4, if_neg hn0, digs_length, HMM.out, hq]
            have HST := Lib.hid hstep
            clear hstep
            by_cases hw80 : wj < 800
            · have hw80' : (wj : Int) < 800 := by omega
              have cw := HRAW4.out.dig (i := wj) (by omega)
              have fw := HRAW4.out.frz wj
              go_wp2
              go_roundg m'
              case measure => omega
              case rel =>
                refine ⟨wj + 1, mm * 10, upd E4 wj (q + 48), t4, by go_num, rfl, by omega, by omega, by omega, HDV'.out.1, by omega, ?_, HRAW4.out.setDig hw80 _, HON4.out.setCell _ _, HDV'.out.2⟩
                rw [HR4.out, HST.out, if_pos hw80, if_pos hw80, digs_succ]
                congr 2
                · exact digs_congr fun i hi => (if_neg (by omega)).symm
                · simp [upd]
            · have hw80' : (800 : Int) ≤ wj := by omega
              by_cases hqp : 0 < q
              · go_wp2
                go_roundg m'
                case measure => omega
                case rel =>
                  refine ⟨wj, mm * 10, E4, true, rfl, rfl, by omega, by omega, by omega, HDV'.out.1, by omega, ?_, HRAW4.out.setTr true, HON4.out.setCell _ _, HDV'.out.2⟩
                  rw [HR4.out, HST.out, if_neg hw80, if_neg hw80, decide_eq_true hqp, Bool.or_true]
              · have hqp' : q ≤ 0 := by omega
                go_wp2
                go_roundg m'
                case measure => omega
                case rel =>
                  refine ⟨wj, mm * 10, E4, t4, rfl, rfl, by omega, by omega, by omega, HDV'.out.1, by omega, ?_, HRAW4.out, HON4.out, HDV'.out.2⟩
                  rw [HR4.out, HST.out, if_neg hw80, if_neg hw80, decide_eq_false (show ¬ 0 < q by omega), Bool.or_false]
end Go.Proofs.YthfjakbpeclfcaaGreatDoor
