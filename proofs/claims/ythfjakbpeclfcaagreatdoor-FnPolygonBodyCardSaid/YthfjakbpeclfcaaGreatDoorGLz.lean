/-
  The zero values of the scanner, the lexer and the parser.
  strings.NewReader and Scanner.Init.
-/
import Derived.Test.YthfjakbpeclfcaaGreatDoorSc
import Derived.Great.FillDense
import Derived.Maps.AppendAt
namespace Go.Proofs.YthfjakbpeclfcaaGreatDoor
open Go.RowKit Go

def zT : Array Value := #[.int .i64 0, .int .i64 0, .int .i64 0, .int .i64 0, .int .i64 0, .int .i64 0, .int .i64 0, .slice none 0 0, .int .i64 0, .int .i8 0, .int .i64 0, .int .i64 0, .int .i32 0, .nilFunc, .int .i64 0, .int .u64 0, .int .u64 0, .nilFunc, .string ByteArray.empty, .int .i64 0, .int .i64 0, .int .i64 0]
def z96 : Array Value := #[.nilIface] ++ Array.replicate 1025 (.int .u8 0) ++ zT
theorem zc96 : Tryz.zeroCells96 = z96 := by kernel_rfl
theorem zc98 : Tryz.zeroCells98 = z96.push (.string ByteArray.empty) := by kernel_rfl
end Go.Proofs.YthfjakbpeclfcaaGreatDoor

namespace Go.Proofs.YthfjakbpeclfcaaGreatDoor
open Go.RowKit Go

theorem z96_one : ∀ v ∈ z96, v.oneCell' = true := by
  intro v hv
  unfold z96 at hv
  rcases Array.mem_append.1 hv with hv | hv
  · rcases Array.mem_append.1 hv with hv | hv
    · simp at hv
      subst hv
      rfl
    · rw [Array.mem_replicate] at hv
      rw [hv.2]
      rfl
  · exact Array.all_eq_true_iff_forall_mem.1 (by kernel_rfl : zT.all (·.oneCell') = true) v hv
theorem z96_size : z96.size = 1048 := by unfold z96; simp [zT]
theorem z96_0 : z96[0]? = some .nilIface := by
  unfold z96
  rw [Array.append_assoc, Array.getElem?_append_left (by simp)]
  rfl
theorem z96_buf (k : Nat) (h : k < 1025) : z96[k + 1]? = some (.int .u8 0) := by
  unfold z96
  rw [Array.getElem?_append_left (by simp; omega), Array.getElem?_append_right (by simp)]
  simp [h]
theorem z96_top (k : Nat) : z96[1026 + k]? = zT[k]? := by
  unfold z96
  rw [Array.getElem?_append_right (by simp)]
  simp
set_option maxHeartbeats 1000000 in
theorem rdr_any (T : ByteArray) (w : World) :
    Calls Tryz.prog 53 #[.string T] w fun e w' => e = .returned (.pointer (some ⟨w.heap.size, 0, none⟩)) ∧ w' = w.alloc (.cells #[.string T, .int .i64 0, .int .i64 (-1)] 134) := by
  go_enter Tryz.func53, Tryz.ntmps53
  go_wp2
  go_ret
  exact ⟨rfl, rfl⟩
/-- Stores into one block, one after the other. -/
def sets (G : Nat) : List (Nat × Value) → World → World
  | [], w => w
  | x :: l, w => sets G l (w.setCell ⟨G, x.1, none⟩ x.2)
def setA : List (Nat × Value) → Array Value → Array Value
  | [], cs => cs
  | x :: l, cs => setA l (cs.setIfInBounds x.1 x.2)
theorem sets_heap {G ty : Nat} : ∀ (l : List (Nat × Value)) {w : World} {cs : Array Value}, w.heap[G]? = some (.cells cs ty (0, 0)) → (sets G l w).heap[G]? = some (.cells (setA l cs) ty (0, 0))
  | [], _, _, h => h
  | x :: l, _, _, h => sets_heap l (Lib.heap_setCell_same (i := x.1) h x.2)
theorem sets_grown (G : Nat) : ∀ (l : List (Nat × Value)) (w : World), w.grownBy (sets G l w) (some G)
  | [], _ => ⟨rfl, rfl, rfl, Nat.le_refl _, fun _ _ _ => rfl⟩
  | x :: l, w => (Lib.grownBy_setCell w G x.1 x.2).trans (sets_grown G l _)
theorem setA_size : ∀ (l : List (Nat × Value)) (cs : Array Value), (setA l cs).size = cs.size
  | [], _ => rfl
  | x :: l, cs => by show (setA l (cs.setIfInBounds x.1 x.2)).size = _; rw [setA_size l]; simp
theorem setA_ne {i : Nat} : ∀ (l : List (Nat × Value)) (cs : Array Value), (∀ x ∈ l, x.1 ≠ i) → (setA l cs)[i]? = cs[i]?
  | [], _, _ => rfl
  | x :: l, cs, h => by
    show (setA l (cs.setIfInBounds x.1 x.2))[i]? = _
    rw [setA_ne l _ (fun y hy => h y (by simp [hy])), Array.getElem?_setIfInBounds_ne (h x (by simp))]
theorem setA_at {i : Nat} {v : Value} : ∀ (l1 l2 : List (Nat × Value)) (cs : Array Value), i < cs.size → (∀ x ∈ l2, x.1 ≠ i) → (setA (l1 ++ (i, v) :: l2) cs)[i]? = some v
  | [], l2, cs, hi, h => by
    show (setA l2 (cs.setIfInBounds i v))[i]? = _
    rw [setA_ne l2 _ h]
    simp [hi]
  | x :: l1, l2, cs, hi, h => setA_at l1 l2 (cs.setIfInBounds x.1 x.2) (by simpa using hi) h
theorem setA_one : ∀ (l : List (Nat × Value)) (cs : Array Value), (∀ x ∈ l, x.2.oneCell' = true) → (∀ v ∈ cs, v.oneCell' = true) → ∀ v ∈ setA l cs, v.oneCell' = true
  | [], _, _, h => h
  | x :: l, cs, hl, h => setA_one l _ (fun y hy => hl y (by simp [hy])) (fun v hv => by
      rcases Array.mem_or_eq_of_mem_setIfInBounds hv with hv | rfl
      · exact h v hv
      · exact hl x (by simp))
/-- What Init stores. -/
def iniL (RD : Nat) : List (Nat × Value) := [(0, .iface 115 (.pointer (some ⟨RD, 0, none⟩))), (1, .int .u8 128), (1026, .int .i64 0), (1027, .int .i64 0), (1028, .int .i64 0), (1029, .int .i64 1), (1030, .int .i64 0), (1031, .int .i64 0), (1032, .int .i64 0), (1036, .int .i64 (-1)), (1038, .int .i32 (-2)), (1039, .nilFunc), (1040, .int .i64 0), (1041, .int .u64 1012), (1042, .int .u64 4294977024), (1046, .int .i64 0)]
set_option maxHeartbeats 4000000 in
set_option maxRecDepth 100000 in
theorem init_any (G RD : Nat) (w : World) (cs : Array Value) (h : w.heap[G]? = some (.cells cs 96 (0, 0))) (hs : cs.size = 1048) :
    Calls Tryz.prog 52 #[.pointer (some ⟨G, 0, none⟩), .iface 115 (.pointer (some ⟨RD, 0, none⟩))] w fun e w' => e = .returned (.pointer (some ⟨G, 0, none⟩)) ∧ w' = sets G (iniL RD) w := by
  have hc : ∀ i, i < 1048 → ∃ v, w.cell? ⟨G, i, none⟩ = some v := fun i hi => ⟨cs[i], by rw [Lib.cell_of_heap h]; exact Array.getElem?_eq_getElem (by omega)⟩
  have z := Lib.frozen_of_heap h
  obtain ⟨v0, c0⟩ := hc 0 (by decide)
  obtain ⟨v1, c1⟩ := hc 1 (by decide)
  obtain ⟨v2, c2⟩ := hc 1026 (by decide)
  obtain ⟨v3, c3⟩ := hc 1027 (by decide)
  obtain ⟨v4, c4⟩ := hc 1028 (by decide)
  obtain ⟨v5, c5⟩ := hc 1029 (by decide)
  obtain ⟨v6, c6⟩ := hc 1030 (by decide)
  obtain ⟨v7, c7⟩ := hc 1031 (by decide)
  obtain ⟨v8, c8⟩ := hc 1032 (by decide)
  obtain ⟨v9, c9⟩ := hc 1036 (by decide)
  obtain ⟨va, ca⟩ := hc 1038 (by decide)
  obtain ⟨vb, cb⟩ := hc 1039 (by decide)
  obtain ⟨vc, cc⟩ := hc 1040 (by decide)
  obtain ⟨vd, cd⟩ := hc 1041 (by decide)
  obtain ⟨ve, ce⟩ := hc 1042 (by decide)
  obtain ⟨vf, cf⟩ := hc 1046 (by decide)
  have hst := fun (W : World) (j : Nat) => run_store Tryz.prog W ⟨G, j, none⟩ .nilFunc .plain rfl
  have hst2 := fun (W : World) (j : Nat) (t : TypeId) (x : Value) => run_store Tryz.prog W ⟨G, j, none⟩ (.iface t x) .plain rfl
  clear hc h hs
  go_enter Tryz.func52, Tryz.ntmps52
  go_wp2
  go_ret
  exact ⟨rfl, rfl⟩
def plc (P : Program) (t : TypeId) : Option (List (Nat × Nat)) := match P.underlying t with
  | some (.struct fields) => fields.toList.mapM (fun f => (P.info? f.type).map fun i => (f.offset, i.size))
  | _ => none
theorem plc98 : plc Tryz.prog 98 = some [(0, 1048), (1048, 1)] := by kernel_rfl
theorem plc101 : plc Tryz.prog 101 = some [(0, 1049)] := by kernel_rfl
theorem fill_head (place : Nat → Option (Nat × Nat)) (cells : Array Value) (v : Value) (size : Nat) (hp : place 0 = some (0, size)) (hv : v.cells.size = size) (hle : size ≤ cells.size) :
    ∃ r, Instr.fill place cells [(0, v)] = some r ∧ r.size = cells.size ∧ ∀ k, r[k]? = if k < size then v.cells[k]? else cells[k]? := by
  obtain ⟨g1, g2⟩ := Great.foldl_set 0 v.cells.toList 0 cells
  refine ⟨_, ?_, g1, fun k => ?_⟩
  · unfold Instr.fill
    simp only [hp, hv]
    rw [if_neg (by simp; omega)]
    unfold Instr.fill
    congr 1
    rw [← Array.foldl_toList, Array.toList_zipIdx]
  · rw [g2 k]
    simp only [Nat.zero_add, Nat.sub_zero, Nat.zero_le, true_and, Array.length_toList, hv, Array.getElem?_toList]
    by_cases hk : k < size
    · rw [if_pos ⟨hk, by omega⟩, if_pos hk]
    · rw [if_neg (fun h => hk h.1), if_neg hk]
theorem built_head {P : Program} {t : TypeId} {i : TypeInfo} {z : Array Value} {size : Nat} {r : List (Nat × Nat)} (hi : P.info? t = some i) (hz : i.zero = some (.agg z)) (hp : plc P t = some ((0, size) :: r)) (v : Value) (hv : v.cells.size = size) (hle : size ≤ z.size) :
    ∃ cs, P.built t [(0, v)] = some cs ∧ cs.size = z.size ∧ ∀ k, cs[k]? = if k < size then v.cells[k]? else z[k]? := by
  unfold plc at hp
  cases hu : P.underlying t with
  | none => rw [hu] at hp; cases hp
  | some d =>
    rw [hu] at hp
    cases d <;> try (cases hp; done)
    rename_i fields
    simp only at hp
    obtain ⟨cs, h1, h2, h3⟩ := fill_head (((0, size) :: r).toArray[·]?) z v size rfl hv hle
    refine ⟨cs, ?_, h2, h3⟩
    unfold Program.built
    rw [hi, hu]
    simp only [hz, hp]
    exact h1
theorem run_alloc_z {P : Program} (w : World) (t : TypeId) (i : TypeInfo) (z : Array Value) (hi : P.info? t = some i) (hz : i.zero = some (.agg z)) : (Instr.alloc t true (.tuple #[])).run P w = .ok (.pointer (some ⟨w.heap.size, 0, none⟩)) (w.alloc (.cells z t)) := by
  simp [Instr.alloc, zeroValue, typeInfo, hi, hz, newVar, newRow, Value.cells]
end Go.Proofs.YthfjakbpeclfcaaGreatDoor
