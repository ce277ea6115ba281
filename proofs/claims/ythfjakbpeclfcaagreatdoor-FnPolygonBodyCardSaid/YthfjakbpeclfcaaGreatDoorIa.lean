/-
  Sequence's Length and Get; Coordinates.
-/
import Derived.Test.YthfjakbpeclfcaaGreatDoorGGp
import Derived.Test.YthfjakbpeclfcaaGreatDoorPc
import Derived.RegionTactic
namespace Go.Proofs.YthfjakbpeclfcaaGreatDoor
open Go.RowKit Go

theorem inf126 : (Tryz.prog.info? 126).map (fun i => (i.zero, i.size, i.bytes)) = some (some (.agg #[.float .f64 0, .float .f64 0, .float .f64 0, .float .f64 0, .int .u8 0]), 5, 40) := by kernel_rfl
theorem cell_five {w : World} {g ty : Nat} {a b c d e : Value} (h : w.heap[g]? = some (.cells #[a, b, c, d, e] ty (0, 0))) : w.cell? ⟨g, 0, none⟩ = some a ∧ w.cell? ⟨g, 1, none⟩ = some b ∧ w.cell? ⟨g, 2, none⟩ = some c ∧ w.cell? ⟨g, 3, none⟩ = some d ∧ w.cell? ⟨g, 4, none⟩ = some e := by
  refine ⟨?_, ?_, ?_, ?_, ?_⟩
  all_goals rw [Lib.cell_of_heap h]; rfl
set_option maxHeartbeats 2000000 in
set_option maxRecDepth 100000 in
theorem slen_any (d : Nat) (hd : d < 4) (ao : Option Addr) (n c m : Nat) (hn : n = m * dimW d) (hm : m ≤ 500000) (w : World) :
    Calls Tryz.prog 60 #[.agg #[.int .u8 d, .slice ao n c]] w fun e w' => e = .returned (.int .i64 m) ∧ Below w.heap.size w w' := by
  have hdim := fun w => dim_any d hd w
  have hp := dimW_pos d
  have hD : dimW d ≤ 4 := by unfold dimW; split; omega; split <;> omega
  generalize dimW d = D at *
  have h0 : ¬ D = 0 := by omega
  have h1 : (n : Int).tdiv (D : Int) = m := by
    rw [hn, Int.natCast_mul]
    exact Int.mul_tdiv_cancel _ (by omega)
  have h2 : wrap64 (m : Int) = m := by unfold wrap64; omega
  clear hp hn
  go_enter Tryz.func60, Tryz.ntmps60
  go_wp2_with fail
  go_quiet ((go_at_call 71; refine Calls.quiet_of_same (hdim _)))
  go_wp2
  go_ret
  exact ⟨rfl, ((Below.refl _ _).alloc (Nat.le_refl _) _).trans ⟨rfl, rfl, rfl, Nat.le_refl _, fun _ _ => rfl⟩⟩

theorem f5_heap {w : World} {g ty : Nat} {a b c d e x y z u v : Value} (h : w.heap[g]? = some (.cells #[a, b, c, d, e] ty (0, 0))) : (((((w.setCell ⟨g, 0, none⟩ x).setCell ⟨g, 1, none⟩ y).setCell ⟨g, 2, none⟩ z).setCell ⟨g, 3, none⟩ u).setCell ⟨g, 4, none⟩ v).heap[g]? = some (.cells #[x, y, z, u, v] ty (0, 0)) :=
  Lib.heap_setCell_same (i := 4) (Lib.heap_setCell_same (i := 3) (Lib.heap_setCell_same (i := 2) (Lib.heap_setCell_same (i := 1) (Lib.heap_setCell_same (i := 0) h x) y) z) u) v
theorem f5_bel {B : Nat} {w0 w : World} {g : Nat} {x y z u v : Value} (h : Below B w0 w) (hg : B ≤ g) : Below B w0 (((((w.setCell ⟨g, 0, none⟩ x).setCell ⟨g, 1, none⟩ y).setCell ⟨g, 2, none⟩ z).setCell ⟨g, 3, none⟩ u).setCell ⟨g, 4, none⟩ v) :=
  ((((h.setCell (p := ⟨g, 0, none⟩) hg _).setCell (p := ⟨g, 1, none⟩) hg _).setCell (p := ⟨g, 2, none⟩) hg _).setCell (p := ⟨g, 3, none⟩) hg _).setCell (p := ⟨g, 4, none⟩) hg _
/-- What Get answers: the place's numbers and the type. -/
def gv (d : Nat) (c : List Nat) : Array Value := #[.float .f64 (c.getD 0 0), .float .f64 (c.getD 1 0), .float .f64 (if d = 1 ∨ d = 3 then c.getD 2 0 else 0), .float .f64 (if d = 2 then c.getD 2 0 else if d = 3 then c.getD 3 0 else 0), .int .u8 d]
set_option maxHeartbeats 4000000 in
set_option maxRecDepth 100000 in
theorem get_any (d : Nat) (hd : d < 4) (g n cp k : Nat) (c : List Nat) (w : World) (hk : k * dimW d + dimW d ≤ n) (hn : n ≤ 500000) (_hg : g < w.heap.size)
    (hat : ∀ W, Below w.heap.size w W → ∀ j, j < dimW d → W.cell? ⟨g, k * dimW d + j, none⟩ = some (.float .f64 (c.getD j 0))) :
    Calls Tryz.prog 61 #[.agg #[.int .u8 d, .slice (some ⟨g, 0, none⟩) n cp], .int .i64 k] w fun e w' => e = .returned (.agg (gv d c)) ∧ Below w.heap.size w w' := by
  have hdim := fun w => dim_any d hd w
  have hb0 : Below w.heap.size w ((w.alloc (.cells #[.int .u8 d, .slice (some ⟨g, 0, none⟩) n cp] 65)).alloc (.cells #[.float .f64 0, .float .f64 0, .float .f64 0, .float .f64 0, .int .u8 0] 126)) := ((Below.refl _ _).alloc (Nat.le_refl _) _).alloc (by simp) _
  have hA := heap_alloc2_old w (.cells #[.int .u8 d, .slice (some ⟨g, 0, none⟩) n cp] 65) (.cells #[.float .f64 0, .float .f64 0, .float .f64 0, .float .f64 0, .int .u8 0] 126)
  have hB := heap_alloc2_new w (.cells #[.int .u8 d, .slice (some ⟨g, 0, none⟩) n cp] 65) (.cells #[.float .f64 0, .float .f64 0, .float .f64 0, .float .f64 0, .int .u8 0] 126)
  generalize hww : (w.alloc (.cells #[.int .u8 d, .slice (some ⟨g, 0, none⟩) n cp] 65)).alloc (.cells #[.float .f64 0, .float .f64 0, .float .f64 0, .float .f64 0, .int .u8 0] 126) = W1 at *
  have HWW := Lib.hid hww
  have HAT := Lib.hid hat
  have HA := Lib.hid hA
  have HB := Lib.hid hB
  have HB0 := Lib.hid hb0
  clear hat hA hB hb0 hww
  have : d = 0 ∨ d = 1 ∨ d = 2 ∨ d = 3 := by omega
  rcases this with rfl | rfl | rfl | rfl
  · have hd2 : dimW 0 = 2 := rfl
    rw [hd2] at hdim hk
    have hcw : ∀ W, Below w.heap.size w W → W.cell? ⟨g, k * 2, none⟩ = some (.float .f64 (c.getD 0 0)) ∧ W.cell? ⟨g, k * 2 + 1, none⟩ = some (.float .f64 (c.getD 1 0)) := fun W h => ⟨HAT.out W h 0 (by decide), HAT.out W h 1 (by decide)⟩
    have hm : IntKind.i64.wrap ((k : Int) * 2) = ((k * 2 : Nat) : Int) := by rw [wrap_small _ (by omega) (by omega)]; omega
    generalize hi : k * 2 = i at *
    have HI := Lib.hid hi
    have h0 : (i : Int) < n := by omega
    have h1 : (i : Int) + 1 < n := by omega
    have hw1 : IntKind.i64.wrap ((i : Int) + 1) = (i : Int) + 1 := wrap_small _ (by omega) (by omega)
    have hn1 : (0 : Int) ≤ (i : Int) + 1 := by omega
    have ht1 : ((i : Int) + 1).toNat = i + 1 := by omega
    obtain ⟨k0, k1⟩ := hcw W1 HB0.out
    obtain ⟨a0, a1⟩ := cell_two HA.out
    obtain ⟨b0, b1, b2, b3, b4⟩ := cell_five HB.out
    have nb := World.new_ne W1 _ b0
    have ne0 := World.new_ne W1 _ k0
    have ne1 := World.new_ne W1 _ k1
    have na := World.new_ne W1 _ a0
    have hst := fun (W : World) (j : Nat) (x : Nat) => run_store Tryz.prog W ⟨W1.heap.size, j, none⟩ (.float .f64 x) .plain rfl
    have hst2 := fun (W : World) (j : Nat) (x : Nat) => run_store Tryz.prog W ⟨w.heap.size + 1, j, none⟩ (.float .f64 x) .plain rfl
    have HCW := Lib.hid hcw
    clear hi hcw hk hn b0 b1 b2 b3 b4
    go_enter Tryz.func61, Tryz.ntmps61
    go_wp2_with fail
    erw [HWW.out]
    refine (hdim _).mono ?_
    rintro e w' ⟨rfl, rfl⟩
    go_upto_region 2 with fail
    go_cut [6] (fun s6 wx => s6 = .pointer (some ⟨w'.heap.size, 0, none⟩) ∧ wx.heap[w'.heap.size]? = some (.cells #[.float .f64 (c.getD 0 0), .float .f64 (c.getD 1 0), .float .f64 0, .float .f64 0, .int .u8 0] 126 (0, 0)) ∧ Below w'.heap.size w' wx)
    case first =>
      go_region_held3 (fun W => W.cell? ⟨g, i, none⟩ = some (.float .f64 (c.getD 0 0)) ∧ W.cell? ⟨g, i + 1, none⟩ = some (.float .f64 (c.getD 1 0)) ∧ W.cell? ⟨w.heap.size, 0, none⟩ = some (.int .u8 (0 : Nat)) ∧ W.cell? ⟨w.heap.size, 1, none⟩ = some (.slice (some ⟨g, 0, none⟩) n cp)) (go_keep) (fail)
      go_wp2
      go_meet
      exact ⟨rfl, heap_alloc_new w' _, ((Below.refl _ _).alloc (Nat.le_refl _) _).trans ⟨rfl, rfl, rfl, Nat.le_refl _, fun _ _ => rfl⟩⟩
    case rest =>
      obtain ⟨rfl, hblk, hbx⟩ := hcut
      have hA2 := (hbx.block _ (Lib.lt_of_heap HA.out)).trans HA.out
      have hB2 := (hbx.block _ (Lib.lt_of_heap HB.out)).trans HB.out
      clear a0 a1 k0 k1
      obtain ⟨k0, k1⟩ := HCW.out wc (HB0.out.trans (below_far hbx HB0.out.size))
      obtain ⟨a0, a1⟩ := cell_two hA2
      obtain ⟨n0, n1, n2, n3, n4⟩ := cell_five hblk
      obtain ⟨b0, b1, b2, b3, b4⟩ := cell_five hB2
      have z := Lib.frozen_of_heap hB2
      have z2 := Lib.frozen_of_heap hblk
      have HB2 := Lib.hid hB2
      have HBX := Lib.hid hbx
      have hsz := Lib.lt_of_heap HB.out
      clear hB2 hbx hA2 hblk
      go_wp2
      refine bodyPost_ret (res_cell rfl _ _ (w.heap.size + 1) 126 #[_, _, _, _, _] (0, 0) _ rfl (f5_heap HB2.out) Tryz.underlying126 (by kernel_rfl)) rfl ?_
      exact ⟨rfl, f5_bel (HB0.out.trans (below_far HBX.out HB0.out.size)) (Nat.le_succ _)⟩
  · have hd2 : dimW 1 = 3 := rfl
    rw [hd2] at hdim hk
    have hcw : ∀ W, Below w.heap.size w W → W.cell? ⟨g, k * 3, none⟩ = some (.float .f64 (c.getD 0 0)) ∧ W.cell? ⟨g, k * 3 + 1, none⟩ = some (.float .f64 (c.getD 1 0)) ∧ W.cell? ⟨g, k * 3 + 2, none⟩ = some (.float .f64 (c.getD 2 0)) := fun W h => ⟨HAT.out W h 0 (by decide), HAT.out W h 1 (by decide), HAT.out W h 2 (by decide)⟩
    have hm : IntKind.i64.wrap ((k : Int) * 3) = ((k * 3 : Nat) : Int) := by rw [wrap_small _ (by omega) (by omega)]; omega
    generalize hi : k * 3 = i at *
    have HI := Lib.hid hi
    have h0 : (i : Int) < n := by omega
    have h1 : (i : Int) + 1 < n := by omega
    have hw1 : IntKind.i64.wrap ((i : Int) + 1) = (i : Int) + 1 := wrap_small _ (by omega) (by omega)
    have hn1 : (0 : Int) ≤ (i : Int) + 1 := by omega
    have ht1 : ((i : Int) + 1).toNat = i + 1 := by omega
    have h2 : (i : Int) + 2 < n := by omega
    have hw2 : IntKind.i64.wrap ((i : Int) + 2) = (i : Int) + 2 := wrap_small _ (by omega) (by omega)
    have hn2 : (0 : Int) ≤ (i : Int) + 2 := by omega
    have ht2 : ((i : Int) + 2).toNat = i + 2 := by omega
    obtain ⟨k0, k1, k2⟩ := hcw W1 HB0.out
    obtain ⟨a0, a1⟩ := cell_two HA.out
    obtain ⟨b0, b1, b2, b3, b4⟩ := cell_five HB.out
    have nb := World.new_ne W1 _ b0
    have ne0 := World.new_ne W1 _ k0
    have ne1 := World.new_ne W1 _ k1
    have ne2 := World.new_ne W1 _ k2
    have na := World.new_ne W1 _ a0
    have hst := fun (W : World) (j : Nat) (x : Nat) => run_store Tryz.prog W ⟨W1.heap.size, j, none⟩ (.float .f64 x) .plain rfl
    have hst2 := fun (W : World) (j : Nat) (x : Nat) => run_store Tryz.prog W ⟨w.heap.size + 1, j, none⟩ (.float .f64 x) .plain rfl
    have HCW := Lib.hid hcw
    clear hi hcw hk hn b0 b1 b2 b3 b4
    go_enter Tryz.func61, Tryz.ntmps61
    go_wp2_with fail
    erw [HWW.out]
    refine (hdim _).mono ?_
    rintro e w' ⟨rfl, rfl⟩
    go_upto_region 2 with fail
    go_cut [6] (fun s6 wx => s6 = .pointer (some ⟨w'.heap.size, 0, none⟩) ∧ wx.heap[w'.heap.size]? = some (.cells #[.float .f64 (c.getD 0 0), .float .f64 (c.getD 1 0), .float .f64 0, .float .f64 0, .int .u8 1] 126 (0, 0)) ∧ Below w'.heap.size w' wx)
    case first =>
      go_region_held3 (fun W => W.cell? ⟨g, i, none⟩ = some (.float .f64 (c.getD 0 0)) ∧ W.cell? ⟨g, i + 1, none⟩ = some (.float .f64 (c.getD 1 0)) ∧ W.cell? ⟨w.heap.size, 0, none⟩ = some (.int .u8 (1 : Nat)) ∧ W.cell? ⟨w.heap.size, 1, none⟩ = some (.slice (some ⟨g, 0, none⟩) n cp)) (go_keep) (fail)
      go_wp2
      go_meet
      exact ⟨rfl, heap_alloc_new w' _, ((Below.refl _ _).alloc (Nat.le_refl _) _).trans ⟨rfl, rfl, rfl, Nat.le_refl _, fun _ _ => rfl⟩⟩
    case rest =>
      obtain ⟨rfl, hblk, hbx⟩ := hcut
      have hA2 := (hbx.block _ (Lib.lt_of_heap HA.out)).trans HA.out
      have hB2 := (hbx.block _ (Lib.lt_of_heap HB.out)).trans HB.out
      clear a0 a1 k0 k1 k2
      obtain ⟨k0, k1, k2⟩ := HCW.out wc (HB0.out.trans (below_far hbx HB0.out.size))
      obtain ⟨a0, a1⟩ := cell_two hA2
      obtain ⟨n0, n1, n2, n3, n4⟩ := cell_five hblk
      obtain ⟨b0, b1, b2, b3, b4⟩ := cell_five hB2
      have z := Lib.frozen_of_heap hB2
      have z2 := Lib.frozen_of_heap hblk
      have HB2 := Lib.hid hB2
      have HBX := Lib.hid hbx
      have hsz := Lib.lt_of_heap HB.out
      clear hB2 hbx hA2 hblk
      go_wp2
      refine bodyPost_ret (res_cell rfl _ _ (w.heap.size + 1) 126 #[_, _, _, _, _] (0, 0) _ rfl (f5_heap ((Below.heap_setCell wc ⟨w'.heap.size, 2, none⟩ (.float .f64 (c.getD 2 0)) (w.heap.size + 1) (by show w.heap.size + 1 ≠ w'.heap.size; omega)).trans HB2.out)) Tryz.underlying126 (by kernel_rfl)) rfl ?_
      exact ⟨rfl, f5_bel ((HB0.out.trans (below_far HBX.out HB0.out.size)).setCell (p := ⟨w'.heap.size, 2, none⟩) (by show w.heap.size ≤ w'.heap.size; omega) _) (Nat.le_succ _)⟩
  · have hd2 : dimW 2 = 3 := rfl
    rw [hd2] at hdim hk
    have hcw : ∀ W, Below w.heap.size w W → W.cell? ⟨g, k * 3, none⟩ = some (.float .f64 (c.getD 0 0)) ∧ W.cell? ⟨g, k * 3 + 1, none⟩ = some (.float .f64 (c.getD 1 0)) ∧ W.cell? ⟨g, k * 3 + 2, none⟩ = some (.float .f64 (c.getD 2 0)) := fun W h => ⟨HAT.out W h 0 (by decide), HAT.out W h 1 (by decide), HAT.out W h 2 (by decide)⟩
    have hm : IntKind.i64.wrap ((k : Int) * 3) = ((k * 3 : Nat) : Int) := by rw [wrap_small _ (by omega) (by omega)]; omega
    generalize hi : k * 3 = i at *
    have HI := Lib.hid hi
    have h0 : (i : Int) < n := by omega
    have h1 : (i : Int) + 1 < n := by omega
    have hw1 : IntKind.i64.wrap ((i : Int) + 1) = (i : Int) + 1 := wrap_small _ (by omega) (by omega)
    have hn1 : (0 : Int) ≤ (i : Int) + 1 := by omega
    have ht1 : ((i : Int) + 1).toNat = i + 1 := by omega
    have h2 : (i : Int) + 2 < n := by omega
    have hw2 : IntKind.i64.wrap ((i : Int) + 2) = (i : Int) + 2 := wrap_small _ (by omega) (by omega)
    have hn2 : (0 : Int) ≤ (i : Int) + 2 := by omega
    have ht2 : ((i : Int) + 2).toNat = i + 2 := by omega
    obtain ⟨k0, k1, k2⟩ := hcw W1 HB0.out
    obtain ⟨a0, a1⟩ := cell_two HA.out
    obtain ⟨b0, b1, b2, b3, b4⟩ := cell_five HB.out
    have nb := World.new_ne W1 _ b0
    have ne0 := World.new_ne W1 _ k0
    have ne1 := World.new_ne W1 _ k1
    have ne2 := World.new_ne W1 _ k2
    have na := World.new_ne W1 _ a0
    have hst := fun (W : World) (j : Nat) (x : Nat) => run_store Tryz.prog W ⟨W1.heap.size, j, none⟩ (.float .f64 x) .plain rfl
    have hst2 := fun (W : World) (j : Nat) (x : Nat) => run_store Tryz.prog W ⟨w.heap.size + 1, j, none⟩ (.float .f64 x) .plain rfl
    have HCW := Lib.hid hcw
    clear hi hcw hk hn b0 b1 b2 b3 b4
    go_enter Tryz.func61, Tryz.ntmps61
    go_wp2_with fail
    erw [HWW.out]
    refine (hdim _).mono ?_
    rintro e w' ⟨rfl, rfl⟩
    go_upto_region 2 with fail
    go_cut [6] (fun s6 wx => s6 = .pointer (some ⟨w'.heap.size, 0, none⟩) ∧ wx.heap[w'.heap.size]? = some (.cells #[.float .f64 (c.getD 0 0), .float .f64 (c.getD 1 0), .float .f64 0, .float .f64 0, .int .u8 2] 126 (0, 0)) ∧ Below w'.heap.size w' wx)
    case first =>
      go_region_held3 (fun W => W.cell? ⟨g, i, none⟩ = some (.float .f64 (c.getD 0 0)) ∧ W.cell? ⟨g, i + 1, none⟩ = some (.float .f64 (c.getD 1 0)) ∧ W.cell? ⟨w.heap.size, 0, none⟩ = some (.int .u8 (2 : Nat)) ∧ W.cell? ⟨w.heap.size, 1, none⟩ = some (.slice (some ⟨g, 0, none⟩) n cp)) (go_keep) (fail)
      go_wp2
      go_meet
      exact ⟨rfl, heap_alloc_new w' _, ((Below.refl _ _).alloc (Nat.le_refl _) _).trans ⟨rfl, rfl, rfl, Nat.le_refl _, fun _ _ => rfl⟩⟩
    case rest =>
      obtain ⟨rfl, hblk, hbx⟩ := hcut
      have hA2 := (hbx.block _ (Lib.lt_of_heap HA.out)).trans HA.out
      have hB2 := (hbx.block _ (Lib.lt_of_heap HB.out)).trans HB.out
      clear a0 a1 k0 k1 k2
      obtain ⟨k0, k1, k2⟩ := HCW.out wc (HB0.out.trans (below_far hbx HB0.out.size))
      obtain ⟨a0, a1⟩ := cell_two hA2
      obtain ⟨n0, n1, n2, n3, n4⟩ := cell_five hblk
      obtain ⟨b0, b1, b2, b3, b4⟩ := cell_five hB2
      have z := Lib.frozen_of_heap hB2
      have z2 := Lib.frozen_of_heap hblk
      have HB2 := Lib.hid hB2
      have HBX := Lib.hid hbx
      have hsz := Lib.lt_of_heap HB.out
      clear hB2 hbx hA2 hblk
      go_wp2
      refine bodyPost_ret (res_cell rfl _ _ (w.heap.size + 1) 126 #[_, _, _, _, _] (0, 0) _ rfl (f5_heap ((Below.heap_setCell wc ⟨w'.heap.size, 3, none⟩ (.float .f64 (c.getD 2 0)) (w.heap.size + 1) (by show w.heap.size + 1 ≠ w'.heap.size; omega)).trans HB2.out)) Tryz.underlying126 (by kernel_rfl)) rfl ?_
      exact ⟨rfl, f5_bel ((HB0.out.trans (below_far HBX.out HB0.out.size)).setCell (p := ⟨w'.heap.size, 3, none⟩) (by show w.heap.size ≤ w'.heap.size; omega) _) (Nat.le_succ _)⟩
  · have hd2 : dimW 3 = 4 := rfl
    rw [hd2] at hdim hk
    have hcw : ∀ W, Below w.heap.size w W → W.cell? ⟨g, k * 4, none⟩ = some (.float .f64 (c.getD 0 0)) ∧ W.cell? ⟨g, k * 4 + 1, none⟩ = some (.float .f64 (c.getD 1 0)) ∧ W.cell? ⟨g, k * 4 + 2, none⟩ = some (.float .f64 (c.getD 2 0)) ∧ W.cell? ⟨g, k * 4 + 3, none⟩ = some (.float .f64 (c.getD 3 0)) := fun W h => ⟨HAT.out W h 0 (by decide), HAT.out W h 1 (by decide), HAT.out W h 2 (by decide), HAT.out W h 3 (by decide)⟩
    have hm : IntKind.i64.wrap ((k : Int) * 4) = ((k * 4 : Nat) : Int) := by rw [wrap_small _ (by omega) (by omega)]; omega
    generalize hi : k * 4 = i at *
    have HI := Lib.hid hi
    have h0 : (i : Int) < n := by omega
    have h1 : (i : Int) + 1 < n := by omega
    have hw1 : IntKind.i64.wrap ((i : Int) + 1) = (i : Int) + 1 := wrap_small _ (by omega) (by omega)
    have hn1 : (0 : Int) ≤ (i : Int) + 1 := by omega
    have ht1 : ((i : Int) + 1).toNat = i + 1 := by omega
    have h2 : (i : Int) + 2 < n := by omega
    have hw2 : IntKind.i64.wrap ((i : Int) + 2) = (i : Int) + 2 := wrap_small _ (by omega) (by omega)
    have hn2 : (0 : Int) ≤ (i : Int) + 2 := by omega
    have ht2 : ((i : Int) + 2).toNat = i + 2 := by omega
    have h3 : (i : Int) + 3 < n := by omega
    have hw3 : IntKind.i64.wrap ((i : Int) + 3) = (i : Int) + 3 := wrap_small _ (by omega) (by omega)
    have hn3 : (0 : Int) ≤ (i : Int) + 3 := by omega
    have ht3 : ((i : Int) + 3).toNat = i + 3 := by omega
    obtain ⟨k0, k1, k2, k3⟩ := hcw W1 HB0.out
    obtain ⟨a0, a1⟩ := cell_two HA.out
    obtain ⟨b0, b1, b2, b3, b4⟩ := cell_five HB.out
    have nb := World.new_ne W1 _ b0
    have ne0 := World.new_ne W1 _ k0
    have ne1 := World.new_ne W1 _ k1
    have ne2 := World.new_ne W1 _ k2
    have ne3 := World.new_ne W1 _ k3
    have na := World.new_ne W1 _ a0
    have hst := fun (W : World) (j : Nat) (x : Nat) => run_store Tryz.prog W ⟨W1.heap.size, j, none⟩ (.float .f64 x) .plain rfl
    have hst2 := fun (W : World) (j : Nat) (x : Nat) => run_store Tryz.prog W ⟨w.heap.size + 1, j, none⟩ (.float .f64 x) .plain rfl
    have HCW := Lib.hid hcw
    clear hi hcw hk hn b0 b1 b2 b3 b4
    go_enter Tryz.func61, Tryz.ntmps61
    go_wp2_with fail
    erw [HWW.out]
    refine (hdim _).mono ?_
    rintro e w' ⟨rfl, rfl⟩
    go_upto_region 2 with fail
    go_cut [6] (fun s6 wx => s6 = .pointer (some ⟨w'.heap.size, 0, none⟩) ∧ wx.heap[w'.heap.size]? = some (.cells #[.float .f64 (c.getD 0 0), .float .f64 (c.getD 1 0), .float .f64 0, .float .f64 0, .int .u8 3] 126 (0, 0)) ∧ Below w'.heap.size w' wx)
    case first =>
      go_region_held3 (fun W => W.cell? ⟨g, i, none⟩ = some (.float .f64 (c.getD 0 0)) ∧ W.cell? ⟨g, i + 1, none⟩ = some (.float .f64 (c.getD 1 0)) ∧ W.cell? ⟨w.heap.size, 0, none⟩ = some (.int .u8 (3 : Nat)) ∧ W.cell? ⟨w.heap.size, 1, none⟩ = some (.slice (some ⟨g, 0, none⟩) n cp)) (go_keep) (fail)
      go_wp2
      go_meet
      exact ⟨rfl, heap_alloc_new w' _, ((Below.refl _ _).alloc (Nat.le_refl _) _).trans ⟨rfl, rfl, rfl, Nat.le_refl _, fun _ _ => rfl⟩⟩
    case rest =>
      obtain ⟨rfl, hblk, hbx⟩ := hcut
      have hA2 := (hbx.block _ (Lib.lt_of_heap HA.out)).trans HA.out
      have hB2 := (hbx.block _ (Lib.lt_of_heap HB.out)).trans HB.out
      clear a0 a1 k0 k1 k2 k3
      obtain ⟨k0, k1, k2, k3⟩ := HCW.out wc (HB0.out.trans (below_far hbx HB0.out.size))
      obtain ⟨a0, a1⟩ := cell_two hA2
      obtain ⟨n0, n1, n2, n3, n4⟩ := cell_five hblk
      obtain ⟨b0, b1, b2, b3, b4⟩ := cell_five hB2
      have z := Lib.frozen_of_heap hB2
      have z2 := Lib.frozen_of_heap hblk
      have HB2 := Lib.hid hB2
      have HBX := Lib.hid hbx
      have hsz := Lib.lt_of_heap HB.out
      clear hB2 hbx hA2 hblk
      go_wp2
      refine bodyPost_ret (res_cell rfl _ _ (w.heap.size + 1) 126 #[_, _, _, _, _] (0, 0) _ rfl (f5_heap ((Below.heap_setCell (wc.setCell ⟨w'.heap.size, 2, none⟩ (.float .f64 (c.getD 2 0))) ⟨w'.heap.size, 3, none⟩ (.float .f64 (c.getD 3 0)) (w.heap.size + 1) (by show w.heap.size + 1 ≠ w'.heap.size; omega)).trans ((Below.heap_setCell wc ⟨w'.heap.size, 2, none⟩ (.float .f64 (c.getD 2 0)) (w.heap.size + 1) (by show w.heap.size + 1 ≠ w'.heap.size; omega)).trans HB2.out))) Tryz.underlying126 (by kernel_rfl)) rfl ?_
      exact ⟨rfl, f5_bel (((HB0.out.trans (below_far HBX.out HB0.out.size)).setCell (p := ⟨w'.heap.size, 2, none⟩) (by show w.heap.size ≤ w'.heap.size; omega) _).setCell (p := ⟨w'.heap.size, 3, none⟩) (by show w.heap.size ≤ w'.heap.size; omega) _) (Nat.le_succ _)⟩
set_option maxHeartbeats 1000000 in
set_option maxRecDepth 100000 in
theorem lco_any (d : Nat) (ao : Option Addr) (n c : Nat) (w : World) :
    Calls Tryz.prog 46 #[.agg #[.int .u8 d, .slice ao n c]] w fun e w' => e = .returned (.agg #[.int .u8 d, .slice ao n c]) ∧ Below w.heap.size w w' := by
  go_enter Tryz.func46, Tryz.ntmps46
  go_wp2
  refine bodyPost_ret (res_cell rfl _ _ (w.heap.size + 1) 65 #[.int .u8 d, .slice ao n c] (0, 0) _ rfl (heap_alloc2_new _ _ _) Tryz.underlying65 (by kernel_rfl)) rfl ?_
  exact ⟨rfl, ((Below.refl _ _).alloc (Nat.le_refl _) _).alloc (by simp) _⟩
end Go.Proofs.YthfjakbpeclfcaaGreatDoor
