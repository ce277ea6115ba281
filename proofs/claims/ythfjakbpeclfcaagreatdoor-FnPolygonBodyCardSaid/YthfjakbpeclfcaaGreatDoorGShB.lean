/-
  Contracts of bytes.Buffer at this program, the buffer a field (laid).
  (*bytes.Buffer).Write of bytes that lie in the buffer's own block (a field of the same struct).
-/
import Derived.Shelf.Bytes.GrowAt
import Derived.Shelf.Bytes.LenAt
import Derived.Shelf.Bytes.StringAt
import Derived.Test.YthfjakbpeclfcaaGreatDoorProg
import Derived.Lib.ByteType
import Derived.Lib.BufferAt
import Derived.Lib.BufferOwn
import Derived.Lib.Walk
import Derived.Lib.BufferWrite
import Derived.Lib.BufferSrc
import Derived.Laws.IdiomCopy
import Derived.Lib.Hide
import Derived.WalkKit
import Derived.BigCall
import Derived.BigGuard
namespace Go.Proofs
open Go.Shelf
def Tryz.laysM181_ren : Go.Shelf.Ren := ⟨fun | 181 => 90 | n => n, fun | 130 => 170 | 3 => 3 | 0 => 0 | 93 => 89 | 37 => 85 | 91 => 87 | 5 => 5 | n => n, fun | n => n⟩
theorem Tryz.laysM181 : Go.Proofs.LaysM.n181 Tryz.prog Tryz.laysM181_ren := {
  mixed := by kernel_rfl
  f181 := Tryz.func90.trans (congrArg some (by kernel_rfl))
  t0 := Tryz.underlying0
  a0 := Tryz.isAgg0
  z0 := Tryz.sizeOf0
  v0 := Tryz.zeroValue0
  t3 := Tryz.underlying3
  a3 := Tryz.isAgg3
  z3 := Tryz.sizeOf3
  v3 := Tryz.zeroValue3
  t37 := Tryz.underlying85
  a37 := Tryz.isAgg85
  z37 := Tryz.sizeOf85
  v37 := Tryz.zeroValue85
  t93 := Tryz.underlying89
  a93 := Tryz.isAgg89
  z93 := Tryz.sizeOf89
  v93 := Tryz.zeroValue89
  t130 := Tryz.underlying170
  a130 := Tryz.isAgg170
  z130 := Tryz.sizeOf170
  v130 := Tryz.zeroValue170
  t5 := Tryz.underlying5
  a5 := Tryz.isAgg5
  z5 := Tryz.sizeOf5
  v5 := Tryz.zeroValue5
  t91 := Tryz.underlying87
  a91 := Tryz.isAgg87
  z91 := Tryz.sizeOf87
  v91 := Tryz.zeroValue87
  i0 := by kernel_rfl
  i3 := by kernel_rfl
  i5 := by kernel_rfl
  i37 := by kernel_rfl
  i91 := by kernel_rfl
  i93 := by kernel_rfl
  i130 := by kernel_rfl }
def Tryz.laysM251_ren : Go.Shelf.Ren := ⟨fun | 251 => 109 | n => n, fun | 130 => 170 | 3 => 3 | 4 => 4 | 0 => 0 | 93 => 89 | 37 => 85 | 91 => 87 | 5 => 5 | n => n, fun | n => n⟩
theorem Tryz.laysM251 : Go.Proofs.LaysM.n251 Tryz.prog Tryz.laysM251_ren := {
  mixed := by kernel_rfl
  f251 := Tryz.func109.trans (congrArg some (by kernel_rfl))
  t0 := Tryz.underlying0
  a0 := Tryz.isAgg0
  z0 := Tryz.sizeOf0
  v0 := Tryz.zeroValue0
  t3 := Tryz.underlying3
  a3 := Tryz.isAgg3
  z3 := Tryz.sizeOf3
  v3 := Tryz.zeroValue3
  t4 := Tryz.underlying4
  a4 := Tryz.isAgg4
  z4 := Tryz.sizeOf4
  v4 := Tryz.zeroValue4
  t37 := Tryz.underlying85
  a37 := Tryz.isAgg85
  z37 := Tryz.sizeOf85
  v37 := Tryz.zeroValue85
  t93 := Tryz.underlying89
  a93 := Tryz.isAgg89
  z93 := Tryz.sizeOf89
  v93 := Tryz.zeroValue89
  t130 := Tryz.underlying170
  a130 := Tryz.isAgg170
  z130 := Tryz.sizeOf170
  v130 := Tryz.zeroValue170
  t5 := Tryz.underlying5
  a5 := Tryz.isAgg5
  z5 := Tryz.sizeOf5
  v5 := Tryz.zeroValue5
  t91 := Tryz.underlying87
  a91 := Tryz.isAgg87
  z91 := Tryz.sizeOf87
  v91 := Tryz.zeroValue87
  i0 := by kernel_rfl
  i3 := by kernel_rfl
  i4 := by kernel_rfl
  i5 := by kernel_rfl
  i37 := by kernel_rfl
  i91 := by kernel_rfl
  i93 := by kernel_rfl
  i130 := by kernel_rfl }
def Tryz.laysM182_ren : Go.Shelf.Ren := ⟨fun | 182 => 92 | n => n, fun | 130 => 170 | 9 => 9 | 4 => 4 | 0 => 0 | 93 => 89 | 37 => 85 | 3 => 3 | 91 => 87 | 5 => 5 | n => n, fun | n => n⟩
theorem Tryz.laysM182 : Go.Proofs.LaysM.n182 Tryz.prog Tryz.laysM182_ren := {
  mixed := by kernel_rfl
  f182 := Tryz.func92.trans (congrArg some (by kernel_rfl))
  t0 := Tryz.underlying0
  a0 := Tryz.isAgg0
  z0 := Tryz.sizeOf0
  v0 := Tryz.zeroValue0
  t3 := Tryz.underlying3
  a3 := Tryz.isAgg3
  z3 := Tryz.sizeOf3
  v3 := Tryz.zeroValue3
  t4 := Tryz.underlying4
  a4 := Tryz.isAgg4
  z4 := Tryz.sizeOf4
  v4 := Tryz.zeroValue4
  t9 := Tryz.underlying9
  a9 := Tryz.isAgg9
  z9 := Tryz.sizeOf9
  v9 := Tryz.zeroValue9
  t37 := Tryz.underlying85
  a37 := Tryz.isAgg85
  z37 := Tryz.sizeOf85
  v37 := Tryz.zeroValue85
  t93 := Tryz.underlying89
  a93 := Tryz.isAgg89
  z93 := Tryz.sizeOf89
  v93 := Tryz.zeroValue89
  t130 := Tryz.underlying170
  a130 := Tryz.isAgg170
  z130 := Tryz.sizeOf170
  v130 := Tryz.zeroValue170
  t5 := Tryz.underlying5
  a5 := Tryz.isAgg5
  z5 := Tryz.sizeOf5
  v5 := Tryz.zeroValue5
  t91 := Tryz.underlying87
  a91 := Tryz.isAgg87
  z91 := Tryz.sizeOf87
  v91 := Tryz.zeroValue87
  i0 := by kernel_rfl
  i3 := by kernel_rfl
  i4 := by kernel_rfl
  i5 := by kernel_rfl
  i9 := by kernel_rfl
  i37 := by kernel_rfl
  i91 := by kernel_rfl
  i93 := by kernel_rfl
  i130 := by kernel_rfl }
def Tryz.laysM252_ren : Go.Shelf.Ren := ⟨fun | 252 => 110 | 181 => 90 | 184 => 81 | 251 => 109 | 290 => 120 | 324 => 137 | n => n, fun | 130 => 170 | 3 => 3 | 4 => 4 | 0 => 0 | 93 => 89 | 131 => 174 | 37 => 85 | 75 => 43 | 91 => 87 | 20 => 20 | 5 => 5 | 80 => 147 | 9 => 9 | n => n, fun | 14 => 7 | n => n⟩
theorem Tryz.laysM252 : Go.Proofs.LaysM.n252 Tryz.prog Tryz.laysM252_ren := {
  mixed := by kernel_rfl
  f181 := Tryz.func90.trans (congrArg some (by kernel_rfl))
  f184 := Tryz.func81.trans (congrArg some (by kernel_rfl))
  f251 := Tryz.func109.trans (congrArg some (by kernel_rfl))
  f252 := Tryz.func110.trans (congrArg some (by kernel_rfl))
  f290 := Tryz.func120.trans (congrArg some (by kernel_rfl))
  f324 := Tryz.func137.trans (congrArg some (by kernel_rfl))
  t0 := Tryz.underlying0
  a0 := Tryz.isAgg0
  z0 := Tryz.sizeOf0
  v0 := Tryz.zeroValue0
  t3 := Tryz.underlying3
  a3 := Tryz.isAgg3
  z3 := Tryz.sizeOf3
  v3 := Tryz.zeroValue3
  t4 := Tryz.underlying4
  a4 := Tryz.isAgg4
  z4 := Tryz.sizeOf4
  v4 := Tryz.zeroValue4
  t20 := Tryz.underlying20
  a20 := Tryz.isAgg20
  z20 := Tryz.sizeOf20
  v20 := Tryz.zeroValue20
  t37 := Tryz.underlying85
  a37 := Tryz.isAgg85
  z37 := Tryz.sizeOf85
  v37 := Tryz.zeroValue85
  t75 := Tryz.underlying43
  a75 := Tryz.isAgg43
  z75 := Tryz.sizeOf43
  v75 := Tryz.zeroValue43
  t91 := Tryz.underlying87
  a91 := Tryz.isAgg87
  z91 := Tryz.sizeOf87
  v91 := Tryz.zeroValue87
  t93 := Tryz.underlying89
  a93 := Tryz.isAgg89
  z93 := Tryz.sizeOf89
  v93 := Tryz.zeroValue89
  t130 := Tryz.underlying170
  a130 := Tryz.isAgg170
  z130 := Tryz.sizeOf170
  v130 := Tryz.zeroValue170
  t131 := Tryz.underlying174
  a131 := Tryz.isAgg174
  z131 := Tryz.sizeOf174
  v131 := Tryz.zeroValue174
  g14 := by kernel_rfl
  t5 := Tryz.underlying5
  a5 := Tryz.isAgg5
  z5 := Tryz.sizeOf5
  v5 := Tryz.zeroValue5
  t9 := Tryz.underlying9
  a9 := Tryz.isAgg9
  z9 := Tryz.sizeOf9
  v9 := Tryz.zeroValue9
  t80 := Tryz.underlying147
  a80 := Tryz.isAgg147
  z80 := Tryz.sizeOf147
  v80 := Tryz.zeroValue147
  i0 := by kernel_rfl
  i3 := by kernel_rfl
  i4 := by kernel_rfl
  i5 := by kernel_rfl
  i9 := by kernel_rfl
  i20 := by kernel_rfl
  i37 := by kernel_rfl
  i75 := by kernel_rfl
  i80 := by kernel_rfl
  i91 := by kernel_rfl
  i93 := by kernel_rfl
  i130 := by kernel_rfl
  i131 := by kernel_rfl
  m14 := by kernel_rfl }
open Go.RowKit in
/-- (*bytes.Buffer).Len: "Len returns the number of bytes of the unread portion of the buffer; b.Len() == len(b.Bytes()).": the world is as it was but for the count of draws (the statement has two reads: its order is drawn). (LAID: no walk: one application.) -/
theorem Tryz.Buffer_Len_at (T : TypeId) (R : Nat → Option Value) (B b q : Nat) (bs : List Value) (w : World) (h : LibA.IsBuffer T R 5 B b q bs w) :
    Calls Tryz.prog 90 #[.pointer (some ⟨b, q, none⟩)] w fun e w' => e = .returned (.int .i64 bs.length) ∧ ∃ n, w' = w.drewN n := Any.Buffer_Len_at Tryz.laysM181 T R B b q bs w h
open Go.RowKit in
/-- (*bytes.Buffer).String: "String returns the contents of the unread portion of the buffer as a string.": THE BYTES THAT WERE WRITTEN. The world is as it was but for the count of draws (the statement has two reads: its order is drawn). (LAID: no walk: one application.) -/
theorem Tryz.Buffer_String_at (T : TypeId) (R : Nat → Option Value) (B b q : Nat) (l : List UInt8) (w : World) (h : LibA.IsBuffer T R 5 B b q (Lib.byteCells l) w) :
    Calls Tryz.prog 92 #[.pointer (some ⟨b, q, none⟩)] w fun e w' => e = .returned (.string ⟨l.toArray⟩) ∧ ∃ n, w' = w.drewN n := Any.Buffer_String_at Tryz.laysM182 T R B b q l w h
open Go.RowKit in
/-- tryGrowByReslice: EITHER there is room: the place to write at is the old length, and the buffer holds the old bytes and n more of whatever lay there; OR there is none: nothing turns, and 'Lib.NoRoom' is what grow asks. (LAID: no walk: one application.) -/
theorem Tryz.Buffer_tryGrow_at (T : TypeId) (R : Nat → Option Value) (B b q n : Nat) (bs : List Value) (w : World) (h : LibA.IsBuffer T R 5 B b q bs w) :
    Calls Tryz.prog 109 #[.pointer (some ⟨b, q, none⟩), .int .i64 n] w fun e w' =>
      (e = .returned (.tuple #[.int .i64 bs.length, .bool true]) ∧ ∃ xs, xs.length = n ∧ LibA.IsBuffer T R 5 B b q (bs ++ xs) w' ∧ Below B w w' ∧ Lib.OthersKept 5 (some b) w w' ∧ w.grownBy w' (some b)) ∨
      (e = .returned (.tuple #[.int .i64 0, .bool false]) ∧ w' = w ∧ LibA.NoRoom b q n w) := Any.Buffer_tryGrow_at Tryz.laysM251 T R B b q n bs w h
open Go.RowKit in
/-- (*bytes.Buffer).grow: "grow grows the buffer to guarantee space for n more bytes. It returns the index where bytes should be written.": WHERE THERE IS NO ROOM; UNDER Go's OWN LIMIT (the new length takes at most 2^47 bytes): the old length; the buffer holds the old bytes and n more of whatever. (LAID: no walk: one application.) -/
theorem Tryz.Buffer_grow_at (T : TypeId) (R : Nat → Option Value) (B b q n : Nat) (bs : List Value) (w : World) (h : LibA.IsBuffer T R 5 B b q bs w) (hnr : LibA.NoRoom b q n w) (hBw : B ≤ w.heap.size) (h1 : ∀ v ∈ bs, v.oneCell' = true) (hlim : bs.length + n ≤ 140737488355328) :
    Calls Tryz.prog 110 #[.pointer (some ⟨b, q, none⟩), .int .i64 n] w fun e w' => e = .returned (.int .i64 bs.length) ∧ ∃ xs, xs.length = n ∧ LibA.IsBuffer T R 5 B b q (bs ++ xs) w' ∧ Below B w w' ∧ Lib.OthersKept 5 (some b) w w' ∧ w.grownBy w' (some b) := Any.Buffer_grow_at Tryz.laysM252 T R B b q n bs w h hnr hBw h1 hlim
end Go.Proofs

namespace Go.Proofs.YthfjakbpeclfcaaGreatDoor
open Go.RowKit Go

set_option maxHeartbeats 6400000 in
set_option maxRecDepth 100000 in
theorem buf_write (T : TypeId) (R : Nat → Option Value) (B b q : Nat) (bs cs : List Value) (o n c : Nat) (w : World) (h : LibA.IsBuffer T R 5 B b q bs w) (hBw : B ≤ w.heap.size) (h1 : ∀ v ∈ bs, v.oneCell' = true)
    (hn : cs.length = n) (ho : o + n ≤ q) (hsrc : ∀ j v, cs[j]? = some v → R (o + j) = some v) (h1c : ∀ v ∈ cs, v.oneCell' = true) (hlim : bs.length + n ≤ 140737488355328) :
    Calls Tryz.prog 91 #[.pointer (some ⟨b, q, none⟩), .slice (some ⟨b, o, none⟩) n c] w fun e w' => e = .returned (.tuple #[.int .i64 n, .nilIface]) ∧ LibA.IsBuffer T R 5 B b q (bs ++ cs) w' ∧ Below B w w' ∧ Lib.OthersKept 5 (some b) w w' := by
  obtain ⟨hB, v0, lr, hbk, -, -⟩ := id h
  have c2 : w.cell? ⟨b, q + 2, none⟩ = some (.int .i8 lr) := hbk.c2
  have f2 : w.frozen? ⟨b, q + 2, none⟩ = false := hbk.f (q + 2)
  have h' := h.setLast 0
  have hbel0 : Below B w (w.setCell ⟨b, q + 2, none⟩ (.int .i8 0)) := (Below.refl B w).setCell (p := ⟨b, q + 2, none⟩) hB _
  have hk0 : Lib.OthersKept 5 (some b) w (w.setCell ⟨b, q + 2, none⟩ (.int .i8 0)) := (Lib.OthersKept.refl _ _ w).setCell ⟨b, q + 2, none⟩ rfl _
  have hg0 : w.grownBy (w.setCell ⟨b, q + 2, none⟩ (.int .i8 0)) (some b) := Lib.grownBy_setCell w b (q + 2) _
  have hBw' : B ≤ (w.setCell ⟨b, q + 2, none⟩ (.int .i8 0)).heap.size := by simpa [World.setCell] using hBw
  clear hbk v0
  have hinfo : (Tryz.prog.info? 5).map (·.size) = some 1 := by kernel_rfl
  have t85 := Tryz.underlying85
  by_cases hs0 : n = 0
  · subst hs0
    have hc0 : cs = [] := List.eq_nil_of_length_eq_zero hn
    subst hc0
    have hce : ∀ d dLen dCap W, (Builtin.copy_ #[85, 85] 3 #[.slice d dLen dCap, .slice (some ⟨b, o, none⟩) 0 c]).run Tryz.prog W = .ok (goInt 0) W := fun d dLen dCap W => run_copy_none W 85 85 3 5 d (some ⟨b, o, none⟩) dLen dCap 0 c t85 hinfo (by simp)
    go_enter Tryz.func91, Tryz.ntmps91
    go_wp2_with (go_at_call 109; refine (Tryz.Buffer_tryGrow_at T R B b q 0 bs _ ?_).mono ?_)
    · exact h'
    rintro e W1 (⟨rfl, xs, hxl, hI, hbel, hk, hg⟩ | ⟨rfl, rfl, hnr⟩)
    · clear h' c2 f2
      have hx0 : xs = [] := List.eq_nil_of_length_eq_zero hxl
      subst hx0
      rw [List.append_nil] at hI
      obtain ⟨-, lr2, hc⟩ := hI.cases
      rcases hc with ⟨hb0, hbk2⟩ | ⟨g, cap, cur, hbk2, -, -, hnc, hcm, -, -, -⟩
      · subst hb0
        have d0 : W1.cell? ⟨b, q, none⟩ = some (.slice none 0 0) := hbk2.c0
        go_wp2
        all_goals (go_ret2; first | exact ⟨rfl, hI, hbel0.trans hbel, hk0.trans hk⟩ | exact ⟨by simp, by simpa using hI, hbel0.trans hbel, hk0.trans hk⟩)
      · have d0 : W1.cell? ⟨b, q, none⟩ = some (.slice (some ⟨g, 0, none⟩) bs.length cap) := hbk2.c0
        unfold maxLen at hcm
        go_wp2
        all_goals (go_ret2; first | exact ⟨rfl, hI, hbel0.trans hbel, hk0.trans hk⟩ | exact ⟨by simp, by simpa using hI, hbel0.trans hbel, hk0.trans hk⟩)
    · obtain ⟨_, _, _, _, hlt⟩ := hnr
      omega
  · go_enter Tryz.func91, Tryz.ntmps91
    go_wp2_with (go_at_call 109; refine (Tryz.Buffer_tryGrow_at T R B b q n bs _ ?_).mono ?_)
    · exact h'
    rintro e W1 (⟨rfl, xs, hxl, hI, hbel, hk, hg⟩ | ⟨rfl, rfl, hnr⟩)
    · have hbelW := hbel0.trans hbel
      have hkW := hk0.trans hk
      have hsrc1 : ∀ j v, cs[j]? = some v → W1.cell? ((⟨b, o, none⟩ : Addr).add j) = some v := fun j v hj => by
        have hjl : j < cs.length := (List.getElem?_eq_some_iff.1 hj).1
        rw [Lib.addr_add, hI.rest (o + j) (.inl (by omega))]
        exact hsrc j v hj
      clear h' hbel hbel0 hBw' c2 f2
      obtain ⟨-, lr2, hc⟩ := hI.cases
      rcases hc with ⟨hnil, -⟩ | ⟨g, cap, cur, hbk2, hBg, hg, hnc, hcm, hcs, htk, hgb⟩
      · exact absurd (congrArg List.length hnil) (by rw [List.length_append, hxl, List.length_nil]; omega)
      · rw [List.length_append, hxl] at hbk2 hnc htk
        have d0 : W1.cell? ⟨b, q, none⟩ = some (.slice (some ⟨g, 0, none⟩) (bs.length + n) cap) := hbk2.c0
        have hne : ¬ cap = bs.length := by omega
        have hcp := run_copy_row (P := Tryz.prog) W1 85 85 3 5 g bs.length n (cap - bs.length) ⟨b, o, none⟩ n c cur 5 cs t85 hinfo hg (by rw [hn]; exact (Nat.min_self n).symm) hsrc1 (by rw [hn]; omega) h1c
        rw [hn] at hcp
        have hcm' := hcm
        unfold maxLen at hcm'
        go_wp2
        go_ret2
        obtain ⟨r1, r2⟩ := LibA.written_end (news := cs) (l := bs.length) hB (by rw [hn]; exact hbk2) hBg hg hcm hcs hgb (by rw [hn]; exact hnc)
        have e1 : cur.toList.take bs.length = bs := by
          have h3 := congrArg (List.take bs.length) htk
          rwa [List.take_take, Nat.min_eq_left (Nat.le_add_right _ _), List.take_left' rfl] at h3
        rw [e1, hn] at r1 r2
        refine ⟨rfl, ?_, ?_, hkW.setRow hg _⟩ <;> rw [e1, ← List.append_assoc]
        · exact r1
        · exact hbelW.trans r2
    · go_wp2_with (go_at_call 110; refine (Tryz.Buffer_grow_at T R B b q n bs _ ?_ ?_ ?_ h1 hlim).mono ?_)
      · exact h'
      · exact hnr
      · exact hBw'
      rintro e W1 ⟨rfl, xs, hxl, hI, hbel, hk, hg⟩
      have hbelW := hbel0.trans hbel
      have hkW := hk0.trans hk
      have hsrc1 : ∀ j v, cs[j]? = some v → W1.cell? ((⟨b, o, none⟩ : Addr).add j) = some v := fun j v hj => by
        have hjl : j < cs.length := (List.getElem?_eq_some_iff.1 hj).1
        rw [Lib.addr_add, hI.rest (o + j) (.inl (by omega))]
        exact hsrc j v hj
      clear h' hbel hbel0 hBw' c2 f2 hnr
      obtain ⟨-, lr2, hc⟩ := hI.cases
      rcases hc with ⟨hnil, -⟩ | ⟨g, cap, cur, hbk2, hBg, hg, hnc, hcm, hcs, htk, hgb⟩
      · exact absurd (congrArg List.length hnil) (by rw [List.length_append, hxl, List.length_nil]; omega)
      · rw [List.length_append, hxl] at hbk2 hnc htk
        have d0 : W1.cell? ⟨b, q, none⟩ = some (.slice (some ⟨g, 0, none⟩) (bs.length + n) cap) := hbk2.c0
        have hne : ¬ cap = bs.length := by omega
        have hcp := run_copy_row (P := Tryz.prog) W1 85 85 3 5 g bs.length n (cap - bs.length) ⟨b, o, none⟩ n c cur 5 cs t85 hinfo hg (by rw [hn]; exact (Nat.min_self n).symm) hsrc1 (by rw [hn]; omega) h1c
        rw [hn] at hcp
        have hcm' := hcm
        unfold maxLen at hcm'
        go_wp2
        go_ret2
        obtain ⟨r1, r2⟩ := LibA.written_end (news := cs) (l := bs.length) hB (by rw [hn]; exact hbk2) hBg hg hcm hcs hgb (by rw [hn]; exact hnc)
        have e1 : cur.toList.take bs.length = bs := by
          have h3 := congrArg (List.take bs.length) htk
          rwa [List.take_take, Nat.min_eq_left (Nat.le_add_right _ _), List.take_left' rfl] at h3
        rw [e1, hn] at r1 r2
        refine ⟨rfl, ?_, ?_, hkW.setRow hg _⟩ <;> rw [e1, ← List.append_assoc]
        · exact r1
        · exact hbelW.trans r2
end Go.Proofs.YthfjakbpeclfcaaGreatDoor
