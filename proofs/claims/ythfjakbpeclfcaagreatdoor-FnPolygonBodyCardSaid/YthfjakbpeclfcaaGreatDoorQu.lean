/-
  strconv.Quote of printable ASCII; the text of a NumError.
-/
import Derived.Test.YthfjakbpeclfcaaGreatDoorGPf
import Derived.BigGuardPart
import Derived.BigQuiet
import Derived.Lib.BufSteps
import Derived.OwnWalk
import Derived.Laws.BytesArg
import Derived.Laws.DeepStrings4
namespace Go.Proofs.YthfjakbpeclfcaaGreatDoor
open Go.RowKit Go

theorem inf5 : (Tryz.prog.info? 5).map (fun i => (i.zero, i.size, i.bytes)) = some (some (.int .u8 0), 1, 1) := by kernel_rfl
theorem buf_bel {B : Nat} {e : TypeId} {v : Value} {n : Nat} {xs : List Value} {W0 w w' : World} (h : Lib.OwnBuf B e v n xs W0 w) (o : Obj) (hr : w'.ownsRowF B e 1 v n xs) (hb : (w.alloc o).grownBy w' v.ownBlock) : Lib.OwnBuf B e v n xs W0 w' :=
  (h.alloc o).grown hr hb

theorem runeCells_asc (r : Int) (h1 : 0 ≤ r) (h2 : r ≤ 126) : Lib.runeCells r = [.int .u8 r] := by
  unfold Lib.runeCells
  rw [Lib.encodeRuneZ_one h1 (by omega)]
  rfl
set_option maxHeartbeats 4000000 in
set_option maxRecDepth 1000000 in
theorem es_asc (B : Nat) (v : Value) (n : Nat) (xs : List Value) (r : Int) (W0 w : World) (hb : Lib.OwnBuf B 5 v n xs W0 w) (hlen : n + 10 ≤ 140737488355328) (h1 : 32 ≤ r) (h2 : r ≤ 126) (h3 : r ≠ 34) (h4 : r ≠ 92) :
    Calls Tryz.prog 201 #[v, .int .i32 r, .int .u8 34, .bool false, .bool false] w fun e w' => ∃ v', e = .returned v' ∧ Lib.OwnBuf B 5 v' (n + 1) (xs ++ [.int .u8 r]) W0 w' := by
  have cP := fun W => Tryz.strconv_IsPrint_latin r W (by omega)
  rw [show Lib.isPrintLatin r = true from by simp [Lib.isPrintLatin]; omega] at cP
  have cA := fun W (h : Lib.OwnBuf B 5 v n xs W0 W) => Tryz.utf8_AppendRune_row B v n xs r (by omega) (by omega) W h.1 (by omega) h.2.2
  rw [runeCells_asc r (by omega) h2] at cA
  have HB := Lib.hid hb
  clear hb
  go_enter Tryz.func201, Tryz.ntmps201
  go_big_wp2_with (first
    | (go_at_call 203; refine (cP _).mono ?_; rintro e w' ⟨rfl, rfl⟩)
    | (go_at_call 205; refine (cA _ HB.out).mono ?_; rintro e w' ⟨v', rfl, ho, o, hg⟩))
  go_ret
  exact ⟨v', rfl, (HB.out.alloc o).grown ho hg⟩

/-- Printable ASCII without the quote and the backslash. -/
def PrA (s : ByteArray) : Prop := ∀ c ∈ s.data.toList, 32 ≤ c.toNat ∧ c.toNat ≤ 126 ∧ c.toNat ≠ 34 ∧ c.toNat ≠ 92
theorem PrA.tail {s : ByteArray} (h : PrA s) (k : Nat) : PrA (s.extract k s.size) := by
  intro c hc
  refine h c ?_
  simp at hc
  exact List.mem_of_mem_drop (List.mem_of_mem_take hc)
def ints (s : ByteArray) : List Int := s.data.toList.map fun c => (c.toNat : Int)
def quo (s : ByteArray) : List Int := 34 :: (ints s ++ [34])
theorem ints_len (s : ByteArray) : (ints s).length = s.size := by simp [ints]
theorem quo_len (s : ByteArray) : (quo s).length = s.size + 2 := by simp [quo, ints]

set_option maxHeartbeats 4000000 in
set_option maxRecDepth 1000000 in
theorem aq_asc (a : Option Addr) (c : Nat) (s : ByteArray) (W0 w : World) (B : Nat) (hb : Lib.OwnBuf B 5 (.slice a 0 c) 0 [] W0 w) (hroom : s.size ≤ c) (hc : c ≤ 9223372036854775807) (hs : s.size ≤ 100000) (hp : PrA s) :
    Calls Tryz.prog 199 #[.slice a 0 c, .string s, .int .u8 34, .bool false, .bool false] w fun e w' => ∃ v', e = .returned v' ∧ Lib.OwnBuf B 5 v' (s.size + 2) (Lib.intCells (quo s)) W0 w' := by
  obtain ⟨i0, hi, hz0, hz1, hz2⟩ := info_parts inf5
  have hroom' : ¬ ((c : Int) < (s.size : Int)) := by omega
  go_enter Tryz.func199, Tryz.ntmps199
  go_big_wp2_with (at_builtin; refine Lib.wpList_append_byte rfl _ _ 85 rfl B 5 i0 Tryz.underlying85 hi hz0 hz1 hz2 _ _ _ rfl W0 _ _ (by assumption) rfl (by omega) ?_; intro _ _ hb)
  have HP := Lib.hid hp
  have HB0 := Lib.hid hb
  clear hp hb
  go_loopg [0, 1, 12, 13] (s.size + 1) (fun G vb vs s12 s13 wr => ∃ (rest : ByteArray) (acc : List Int) (r k : Int), vs = .string rest ∧ G = rest.size + 1 ∧ s12 = .int .i32 r ∧ s13 = .int .i64 k ∧ PrA rest ∧ acc.length + rest.size = s.size ∧ acc ++ ints rest = ints s ∧ Lib.OwnBuf B 5 vb (acc.length + 1) (Lib.intCells (34 :: acc)) W0 wr)
  case atStart => exact ⟨s, [], 0, 0, rfl, rfl, rfl, rfl, HP.out, by simp, rfl, HB0.out⟩
  case round =>
    obtain ⟨rest, acc, r, k, rfl, hG, rfl, rfl, hp, hn, hacc, hbr⟩ := hrel
    have HP := Lib.hid hp
    have HA := Lib.hid hacc
    clear hp hacc
    by_cases h0 : 0 < rest.size
    · have h0' : (0 : Int) < (rest.size : Int) := by omega
      obtain ⟨x, hx⟩ : ∃ x, rest.data.toList[0]? = some x := by
        have : 0 < rest.data.toList.length := by simpa using h0
        exact ⟨_, List.getElem?_eq_getElem this⟩
      have hxp := HP.out x (List.mem_of_getElem? hx)
      have cD := fun W => Tryz.utf8_DecodeRuneInString_ascii rest x W hx (by omega)
      have cE := fun W (h : Lib.OwnBuf B 5 u0 (acc.length + 1) (Lib.intCells (34 :: acc)) W0 W) => es_asc B u0 _ _ (x.toNat : Int) W0 W h (by omega) (by omega) (by omega) (by omega) (by omega)
      have HBR := Lib.hid hbr
      have HT := Lib.hid (HP.out.tail 1)
      have HG := Lib.hid hG
      have HX := Lib.hid hx
      clear hbr hG hxp HB0 hx
      have hx1 : ¬ ((x.toNat : Int) = 65533) := by have := UInt8.toNat_lt x; omega
      go_big_wp2_with (first
        | (go_at_call 200; refine (cD _).mono ?_; rintro e w' ⟨rfl, rfl⟩)
        | (go_at_call 201; refine (cE _ HBR.out).mono ?_; rintro e w' ⟨v', rfl, hb2⟩))
      go_roundg (gk - 1)
      case measure => have := HG.out; omega
      case rel =>
        have hsz : (rest.extract 1 rest.size).size = rest.size - 1 := by simp
        refine ⟨_, acc ++ [(x.toNat : Int)], _, _, rfl, by have := HG.out; omega, rfl, rfl, HT.out, by rw [hsz]; simp; omega, ?_, by simpa [Lib.intCells] using hb2⟩
        rw [← HA.out, List.append_assoc]
        congr 1
        unfold ints
        rw [show rest.data.toList = x :: (rest.extract 1 rest.size).data.toList from ?_]
        · rfl
        · have hX := HX.out
          cases hr : rest.data.toList with
          | nil => rw [hr] at hX; cases hX
          | cons y t =>
            rw [hr] at hX
            injection hX with hX
            have : (rest.extract 1 rest.size).data.toList = t := by
              rw [ext_tail, hr]
              rfl
            rw [this, ← hX]
    · have h0' : ¬ (0 : Int) < (rest.size : Int) := by omega
      have h1 : ints rest = [] := by
        apply List.eq_nil_of_length_eq_zero
        rw [ints_len]
        omega
      have h3 : acc.length = s.size := by omega
      have H1 := Lib.hid h1
      have H3 := Lib.hid h3
      clear HB0 h1 h3
      go_big_wp2_with (at_builtin; refine Lib.wpList_append_byte rfl _ _ 85 rfl B 5 i0 Tryz.underlying85 hi hz0 hz1 hz2 _ _ _ rfl W0 _ _ (by assumption) rfl (by omega) ?_; intro _ _ hb2)
      go_ret
      have h2 := HA.out
      rw [H1.out, List.append_nil] at h2
      refine ⟨_, rfl, ?_⟩
      rw [H3.out] at hb2
      have h4 : Lib.intCells (quo s) = Lib.intCells (34 :: acc) ++ [.int .u8 34] := by simp [quo, ← h2, Lib.intCells]
      rw [h4]
      exact hb2

set_option maxHeartbeats 4000000 in
set_option maxRecDepth 1000000 in
theorem qw_asc (s : ByteArray) (w : World) (hs : s.size ≤ 100000) (hp : PrA s) :
    Calls Tryz.prog 198 #[.string s, .int .u8 34, .bool false, .bool false] w fun e w' => e = .returned (.string (strOfNums (quo s))) ∧ Below w.heap.size w w' := by
  obtain ⟨i0, hi, hz0, hz1, hz2⟩ := info_parts inf5
  obtain ⟨c, hc⟩ : ∃ c, c = 3 * s.size / 2 := ⟨_, rfl⟩
  have hcI : 3 * (s.size : Int) / 2 = (c : Int) := by omega
  have hc1 : s.size ≤ c := by omega
  have hc2 : c ≤ 140737488355328 := by omega
  have cQ : ∀ w1, Lib.OwnBuf w.heap.size 5 (.slice (some ⟨w.heap.size, 0, none⟩) 0 c) 0 [] w w1 → _ := fun w1 hb => aq_asc (some ⟨w.heap.size, 0, none⟩) c s w w1 _ hb hc1 (by omega) hs hp
  have Hc := Lib.hid hc
  clear hc hp
  go_enter Tryz.func198, Tryz.ntmps198
  go_wp2_with (first
    | (at_make; refine wpList_make_own _ rfl _ _ 85 rfl w.heap.size 5 i0 (.int .u8 0) 1 Tryz.underlying85 hi hz0 hz1 _ _ _ c rfl rfl (by first | rfl | assumption) (by rw [hz2]; omega) (by unfold maxLen; omega) (Nat.le_refl _) ?_; intro w1 hown hg)
    | (go_at_call 199; refine (cQ _ ⟨World.ownsRowF_of hown, (Below.refl _ _).grown hg (Nat.le_refl _) (by intro k hk; cases hk), hg.size⟩).mono ?_; rintro e w2 ⟨v2, rfl, hb2⟩))
  have hq := quo_len s
  rcases hb2.1.2 with ⟨_, h0⟩ | ⟨g, cap, cur, fz, rfl, hrest⟩
  · omega
  · have hcells : ∀ i, i < (quo s).length → w2.cell? ⟨g, 0 + i, none⟩ = some (.int .u8 ((quo s).getD i 0)) := by
      intro i hi
      have := hb2.1.cells (g := g) (by simp [Value.ownBlock]) i (.int .u8 ((quo s).getD i 0)) (by simp [Lib.intCells, List.getD, List.getElem?_eq_getElem hi])
      by_cases hi0 : i = 0 <;> simpa [Addr.add, hi0] using this
    have hcv := run_convert_bytes_arg w2 85 5 Tryz.underlying85 Tryz.underlying5 g 0 (s.size + 2) cap (quo s) hq (fun i hi => hcells i (by rw [hq]; exact hi)) 9 Tryz.underlying9
    rw [hcv]
    go_wp2
    go_ret
    exact ⟨rfl, hb2.2.1⟩
theorem qt_asc (s : ByteArray) (w : World) (hs : s.size ≤ 100000) (hp : PrA s) :
    Calls Tryz.prog 197 #[.string s] w fun e w' => e = .returned (.string (strOfNums (quo s))) ∧ Below w.heap.size w w' := by
  have cW := qw_asc s w hs hp
  clear hp
  go_enter Tryz.func197, Tryz.ntmps197
  go_wp2_with (go_at_call 198; refine cW.mono ?_; rintro e w2 ⟨rfl, hb⟩)
  go_ret
  exact ⟨rfl, hb⟩
/-- (*errors.errorString).Error. -/
theorem es_text (a o : Nat) (t : ByteArray) (w : World) (h : w.cell? ⟨a, o, none⟩ = some (.string t)) :
    Calls Tryz.prog 212 #[.pointer (some ⟨a, o, none⟩)] w fun e w' => e = .returned (.string t) ∧ Below w.heap.size w w' := by
  go_enter Tryz.func212, Tryz.ntmps212
  go_wp2
  go_ret
  exact ⟨rfl, ⟨rfl, rfl, rfl, Nat.le_refl _, fun _ _ => rfl⟩⟩
/-- err.Error() of an error of strconv. -/
theorem ne_text (B : Nat) (S : ByteArray) (w0 w : World) (er : Value) (h : NumErr B S w0 w er) (hs : S.size ≤ 100000) (hp : PrA S) :
    ∃ N t, er = .iface 163 (.pointer (some ⟨N, 0, none⟩)) ∧ Calls Tryz.prog 196 #[.pointer (some ⟨N, 0, none⟩)] w fun e w' => e = .returned (.string t) ∧ Below w.heap.size w w' := by
  obtain ⟨N, a, o, t, rfl, h1, h2, h3, h4, h5⟩ := h
  refine ⟨N, _, rfl, Tryz.NumError_Error N 0 ⟨#[80, 97, 114, 115, 101, 70, 108, 111, 97, 116]⟩ S (strOfNums (quo S)) t 215 (.pointer (some ⟨a, o, none⟩)) 212 (.pointer (some ⟨a, o, none⟩)) w ?_ ?_ ?_ ?_ ?_ ?_ ?_ ?_⟩
  · rw [Lib.cell_of_heap h4]; rfl
  · rw [Lib.cell_of_heap h4]; rfl
  · rw [Lib.cell_of_heap h4]; rfl
  · rw [strOfNums_size, quo_len]
    show 10 + _ + _ + 20 ≤ _
    omega
  · intro W _
    exact qt_asc S W hs hp
  · intro W
    kernel_rfl
  · intro args W
    kernel_rfl
  · intro W hb
    refine es_text a o t W ?_
    exact (hb.cell (block_lt_of_cell h5)).trans h5
end Go.Proofs.YthfjakbpeclfcaaGreatDoor
