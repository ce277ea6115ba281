/-
  The scanner's next: a byte of the text, or its end.
  The reader's Read into the scanner's buffer.
-/
import Derived.Test.YthfjakbpeclfcaaGreatDoorSc
import Derived.Deep.DeepCutAuto
import Derived.Deep.CutBlock
import Derived.BigQuiet
import Derived.Lib.LazyBuf
import Derived.StillTailTactics
import Derived.WalkSmall
import Derived.Lib.IndexBytes
namespace Go.Proofs.YthfjakbpeclfcaaGreatDoor
open Go.RowKit Go

def tx (T : ByteArray) (i : Nat) : Int := ((T.data.toList.getD i 0).toNat : Int)
def Asc (T : ByteArray) : Prop := ∀ i, i < T.size → 1 ≤ tx T i ∧ tx T i < 128

/-- The buffer holds the text from o on, e bytes of it; p of these are read. -/
structure Inv (f : Flds) (o e p : Nat) : Prop where
  off : f.off = o
  fin : f.fin = e
  pos : f.pos = p
  hp : p ≤ e
  he : e ≤ 1024
  hT : o + e ≤ f.T.size
  ri : f.ri = ((o + e : Nat) : Int)
  buf : ∀ j, j < e → f.buf j = tx f.T (o + j)
  sen : f.buf e = 128
  lcl : f.lcl = 0 ∨ f.lcl = 1

set_option maxHeartbeats 1000000 in
set_option maxRecDepth 100000 in
theorem nx_fast (B P RD : Nat) (f : Flds) (w : World) (o e p : Nat) (h : Core B P RD f w) (hI : Inv f o e p) (hp : p < e) (hA : Asc f.T) :
    Calls Tryz.prog 80 #[.pointer (some ⟨P, 0, none⟩)] w fun en w' => en = .returned (.int .i32 (tx f.T (o + p))) ∧
      (∃ l c ll, Core B P RD { f with pos := (p : Int) + 1, lcl := 1, line := l, col := c, lll := ll } w') ∧ Fr B P RD w w' := by
  have he := hI.he
  have hT := hI.hT
  have c1 := h.c_pos
  rw [hI.pos] at c1
  have cb := h.cbuf p (by omega)
  rw [hI.buf p hp] at cb
  obtain ⟨x0, x1⟩ := hA (o + p) (by omega)
  generalize tx f.T (o + p) = x at *
  have hp1 : (p : Int) < 1025 := by omega
  have cb2 := cb
  rw [Nat.add_comm] at cb2
  have hP := h.hP
  have H := Lib.hid h
  have HI := Lib.hid hI
  clear h hI
  go_enter Tryz.func80, Tryz.ntmps80
  go_wp2
  go_quiet (fail)
  have h := H.out.drewN nq
  have hb : Fr B P RD w (w.drewN nq) := Fr.refl.drewN nq
  generalize w.drewN nq = w2 at *
  obtain ⟨c1, c2, c3, c4, c5, c6, c7, c8, c9, c10, fz⟩ := h.facts
  rw [HI.out.pos] at c1
  have H2 := Lib.hid h
  have HB := Lib.hid hb
  clear h hb cb cb2
  by_cases hx : x = 10
  · subst hx
    go_wp2
    go_ret
    refine ⟨rfl, ⟨wrap64 (f.line + 1), 0, wrap64 (f.col + 1), ((((((H2.out.s_pos ((p : Int) + 1)).s_lcl 1).s_col (wrap64 (f.col + 1))).s_line (wrap64 (f.line + 1))).s_lll (wrap64 (f.col + 1))).s_col 0)⟩, ?_⟩
    exact (((((HB.out.sP hP _ _).sP hP _ _).sP hP _ _).sP hP _ _).sP hP _ _).sP hP _ _
  · have hx1 : (x == 10) = false := by simpa using hx
    have hx2 : (x == 0) = false := by simp; omega
    go_wp2
    go_ret
    refine ⟨rfl, ⟨f.line, wrap64 (f.col + 1), f.lll, (((H2.out.s_pos ((p : Int) + 1)).s_lcl 1).s_col (wrap64 (f.col + 1)))⟩, ?_⟩
    exact ((HB.out.sP hP _ _).sP hP _ _).sP hP _ _
end Go.Proofs.YthfjakbpeclfcaaGreatDoor

namespace Go.Proofs.YthfjakbpeclfcaaGreatDoor
open Go.RowKit Go

theorem tlen (S : ByteArray) : S.data.toList.length = S.size := by cases S; rfl
/-- copy(dst, s), s a string: as many of its bytes as dst has room for. -/
theorem run_copy_string_min {P : Program} (w : World) (dT sT ty elem : TypeId) (b o dLen dCap : Nat) (t : ByteArray) (n : Nat) (hn : n = Nat.min t.size dLen)
    (hu : P.underlying dT = some (.slice elem)) (hz : ∀ w, (Go.sizeOf elem).run P w = .ok 1 w)
    (hc : ∀ j, j < n → (w.cell? ⟨b, o + j, none⟩).isSome = true) (hf : ∀ j, j < n → w.frozen? ⟨b, o + j, none⟩ = false) :
    (Builtin.copy_ #[dT, sT] ty #[.slice (some ⟨b, o, none⟩) dLen dCap, .string t]).run P w = .ok (goInt n) (w.setCells b o ((t.data.toList.take n).map fun x => Value.int .u8 (x.toNat : Int))) := by
  have hl : ((t.data.toList.take n).map fun x => Value.int .u8 (x.toNat : Int)).length = n := by
    rw [List.length_map, List.length_take, ← Lib.size_eq, hn]
    exact Nat.min_eq_left (Nat.min_le_left _ _)
  have hst := run_storeCells_cells (P := P) b o ((t.data.toList.take n).map fun x => Value.int .u8 (x.toNat : Int)) 0 w (by rw [hl]; simpa using hc) (by rw [hl]; simpa using hf) (by
    intro v hv
    obtain ⟨x, _, rfl⟩ := List.mem_map.1 hv
    rfl)
  simp [Builtin.copy_, run_underlying hu, Builtin.lenOf, Builtin.firstCells, hz]
  rw [← hn, ← List.map_take, hst]
  simp [Result.andThen]

section
variable {B P RD : Nat} {f : Flds} {w : World}
/-- What a copy of bytes to the buffer's beginning leaves. -/
theorem Core.s_bufs : ∀ (l : List UInt8) (k : Nat) (f : Flds) (w : World), Core B P RD f w → k + l.length ≤ 1025 →
    Core B P RD { f with buf := fun j => if k ≤ j ∧ j < k + l.length then ((l.getD (j - k) 0).toNat : Int) else f.buf j } (w.setCells P (k + 1) (l.map fun x => Value.int .u8 (x.toNat : Int)))
  | [], k, f, w, h, _ => by
    have : (fun j => if k ≤ j ∧ j < k + ([] : List UInt8).length then ((([] : List UInt8).getD (j - k) 0).toNat : Int) else f.buf j) = f.buf := by
      funext j
      rw [if_neg]
      simp
    rw [this]
    exact h
  | c :: cs, k, f, w, h, hl => by
    rw [List.length_cons] at hl
    have h1 := h.s_buf k (by omega) (c.toNat : Int)
    have h2 := Core.s_bufs cs (k + 1) _ _ h1 (by omega)
    have e : (fun j => if k + 1 ≤ j ∧ j < k + 1 + cs.length then ((cs.getD (j - (k + 1)) 0).toNat : Int) else updI f.buf k (c.toNat : Int) j) =
        (fun j => if k ≤ j ∧ j < k + (c :: cs).length then (((c :: cs).getD (j - k) 0).toNat : Int) else f.buf j) := by
      funext j
      rw [List.length_cons]
      by_cases hj : j = k
      · subst hj
        rw [if_neg (by omega), if_pos (by omega)]
        simp [updI]
      · by_cases hj2 : k + 1 ≤ j ∧ j < k + 1 + cs.length
        · rw [if_pos hj2, if_pos (by omega)]
          obtain ⟨i, rfl⟩ : ∃ i, j = k + 1 + i := ⟨j - (k + 1), by omega⟩
          rw [show k + 1 + i - (k + 1) = i from by omega, show k + 1 + i - k = i + 1 from by omega]
          simp
        · rw [if_neg hj2, if_neg (by omega)]
          simp [updI, hj]
    dsimp only at h2
    rw [e] at h2
    exact h2
end

set_option maxHeartbeats 1000000 in
set_option maxRecDepth 100000 in
theorem rd_end (B P RD : Nat) (f : Flds) (w : World) (h : Core B P RD f w) (hr : f.ri = f.T.size) (ev : Value) (he : w.cell? ⟨2, 0, none⟩ = some ev) (d : Addr) (c : Nat) :
    Calls Tryz.prog 191 #[.pointer (some ⟨RD, 0, none⟩), .slice (some d) 1024 c] w fun en w' => en = .returned (.tuple #[.int .i64 0, ev]) ∧ ∃ n m, w' = (w.drewN n).drewN m := by
  have r0 := h.r0
  have r1 := h.r1
  rw [hr] at r1
  clear hr h
  go_enter Tryz.func191, Tryz.ntmps191
  go_wp2
  go_quiet (fail)
  go_wp2
  go_quiet (fail)
  go_wp2
  go_ret2
  exact ⟨rfl, _, _, rfl⟩

set_option maxHeartbeats 1000000 in
set_option maxRecDepth 100000 in
theorem rd_some (B P RD : Nat) (f : Flds) (w : World) (h : Core B P RD f w) (i n : Nat) (hr : f.ri = i) (hi : i < f.T.size) (hsz : f.T.size ≤ 100000) (hn : n = min (f.T.size - i) 1024) :
    Calls Tryz.prog 191 #[.pointer (some ⟨RD, 0, none⟩), .slice (some ⟨P, 1, none⟩) 1024 1025] w fun en w' => en = .returned (.tuple #[.int .i64 n, .nilIface]) ∧
      Core B P RD { f with buf := fun j => if j < n then tx f.T (i + j) else f.buf j, ri := ((i + n : Nat) : Int), pr := -1 } w' ∧ Fr B P RD w w' := by
  have r0 := h.r0
  have r1 := h.r1
  rw [hr] at r1
  have r2 := h.r2
  have z := h.rfz
  have hi' : (i : Int) < f.T.size := by omega
  have H := Lib.hid h
  clear h
  have hRB := H.out.hr
  go_enter Tryz.func191, Tryz.ntmps191
  go_wp2
  go_quiet (fail)
  have h := (H.out.drewN nq).s_r2 (-1)
  have hb : Fr B P RD w ((w.drewN nq).setCell ⟨RD, 2, none⟩ (.int .i64 (-1))) := (Fr.refl.drewN nq).sR hRB _ _
  go_wp2
  generalize (w.drewN nq).setCell ⟨RD, 2, none⟩ (.int .i64 (-1)) = w2 at *
  have q0 : w2.cell? ⟨RD, 0, none⟩ = some (.string f.T) := h.r0
  have q1 : w2.cell? ⟨RD, 1, none⟩ = some (.int .i64 i) := hr ▸ h.r1
  have hi2 : (i : Int) ≤ f.T.size := by omega
  go_still_tail 10, (by kernel_rfl)
  change wpList _ _ _ _ _ w2.drew
  have h3 := h.drewN 1
  have hb3 := hb.drew
  change Core B P RD _ w2.drew at h3
  generalize w2.drew = w3 at *
  have v1 : w3.cell? ⟨RD, 1, none⟩ = some (.int .i64 i) := hr ▸ h3.r1
  have hl : (((f.T.extract i f.T.size).data.toList.take n).map fun x => Value.int .u8 (x.toNat : Int)).length = n := by
    rw [List.length_map, List.length_take, tlen, ByteArray.size_extract]
    omega
  have hcp := run_copy_string_min (P := Tryz.prog) w3 85 9 3 5 P 1 1024 1025 (f.T.extract i f.T.size) n (by rw [ByteArray.size_extract, hn]; show _ = min _ _; omega) Tryz.underlying85 (fun w => by kernel_rfl)
    (fun j hj => by rw [show 1 + j = j + 1 from by omega, h3.cbuf j (by omega)]; rfl) (fun j hj => h3.frz _)
  have h4 := Core.s_bufs ((f.T.extract i f.T.size).data.toList.take n) 0 _ _ h3 (by rw [List.length_map] at hl; omega)
  have hb4 := Fr.sPs h.hP (((f.T.extract i f.T.size).data.toList.take n).map fun x => Value.int .u8 (x.toNat : Int)) 1 _ hb3
  rw [Nat.zero_add] at h4
  generalize hw4 : w3.setCells P 1 (((f.T.extract i f.T.size).data.toList.take n).map fun x => Value.int .u8 (x.toNat : Int)) = w4 at *
  have u1 : w4.cell? ⟨RD, 1, none⟩ = some (.int .i64 i) := hr ▸ h4.r1
  have z4 := h4.rfz
  have hin : (i : Int) + n ≤ 100000 := by omega
  have hbuf : (fun j => if 0 ≤ j ∧ j < ((f.T.extract i f.T.size).data.toList.take n).length then ((((f.T.extract i f.T.size).data.toList.take n).getD (j - 0) 0).toNat : Int) else f.buf j) = (fun j => if j < n then tx f.T (i + j) else f.buf j) := by
    funext j
    rw [List.length_map] at hl
    rw [hl]
    by_cases hj : j < n
    · rw [if_pos hj, if_pos ⟨by omega, by omega⟩]
      unfold tx
      rw [Nat.sub_zero, List.getD_eq_getElem?_getD, List.getD_eq_getElem?_getD, List.getElem?_take_of_lt hj, Go.Lib.extract_to_end, List.getElem?_drop]
    · rw [if_neg hj, if_neg (by omega)]
  have HN := Lib.hid hn
  have H4 := Lib.hid h4
  have HB4 := Lib.hid hb4
  have HBU := Lib.hid hbuf
  clear hn h4 hb4 hbuf hl h3 hb3 h hb
  go_wp2
  go_ret2
  have h5 := H4.out.s_r1 ((i : Int) + n)
  dsimp only at h5
  rw [HBU.out] at h5
  exact ⟨rfl, h5, HB4.out.sR hRB _ _⟩
end Go.Proofs.YthfjakbpeclfcaaGreatDoor
