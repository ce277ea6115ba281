/-
  DoorPolygonBody and ReadPolygonBody.
  ReadPolygonBody.
-/
import Derived.Test.YthfjakbpeclfcaaGreatDoorGLv
import Derived.Test.YthfjakbpeclfcaaGreatDoorGIc
import Derived.Test.YthfjakbpeclfcaaGreatDoorGKa
namespace Go.Proofs.YthfjakbpeclfcaaGreatDoor
open Go.RowKit Go

theorem NumP.up {B B' : Nat} {w : World} (h : NumP B w) (hB : B ≤ B') (hs : B' ≤ w.heap.size) : NumP B' w := by
  obtain ⟨n, e⟩ := h
  refine ⟨⟨by have := n.hB; omega, hs, n.o9, n.i0, n.i1, n.i2, ?_, ?_, n.pow, ?_⟩, ⟨by have := e.hB; omega, ?_, ?_⟩⟩
  · obtain ⟨lb, lo, lc, h1, h2⟩ := n.pwt
    exact ⟨lb, lo, lc, by omega, h2⟩
  · obtain ⟨lb, lo, lc, h1, h2⟩ := n.ten
    exact ⟨lb, lo, lc, by omega, h2⟩
  · obtain ⟨lb, lo, lc, h1, h2⟩ := n.cht
    exact ⟨lb, lo, lc, by omega, h2⟩
  · obtain ⟨a, o, t, h1, h2⟩ := e.syn
    exact ⟨a, o, t, by omega, h2⟩
  · obtain ⟨a, o, t, h1, h2⟩ := e.rng
    exact ⟨a, o, t, by omega, h2⟩
set_option maxHeartbeats 4000000 in
set_option maxRecDepth 100000 in
theorem door_any (B : Nat) (T : ByteArray) (rd : ByteArray → Option Nat) (l : List ByteArray) (w : World) (d : Nat) (hd : d < 4) (hA : Asc T) (hU : NoU T) (hs : T.size ≤ 100000) (ht : Toks T 0 l) (hl : LxW B w) (hN : NumP B w) (hB : B ≤ w.heap.size)
    (hr : ∀ t, t ∈ l → NT t (rd t)) (hsz : l.length ≤ 100000) :
    Calls Tryz.prog 12 #[.string T, .int .u8 d] w fun e w' => pgO w.heap.size rd d l e w' ∧ Below w.heap.size w w' := by
  have hb0 : Below w.heap.size w (w.alloc (.cells #[.slice none 0 0, .int .u8 0] 41)) := (Below.refl _ _).alloc (Nat.le_refl _) _
  have hbB : Below B w (w.alloc (.cells #[.slice none 0 0, .int .u8 0] 41)) := (Below.refl _ _).alloc hB _
  have hnew := heap_alloc_new w (.cells #[.slice none 0 0, .int .u8 0] 41)
  have hsz1 : (w.alloc (.cells #[.slice none 0 0, .int .u8 0] 41)).heap.size = w.heap.size + 1 := by simp
  have hnp := np_new B T l (w.alloc (.cells #[.slice none 0 0, .int .u8 0] 41)) hA hU hs ht (hl.below hbB) (by rw [hsz1]; omega)
  have hN1 := (hN.below hbB).up (B' := w.heap.size + 1) (by omega) (by rw [hsz1]; exact Nat.le_refl _)
  rw [hsz1] at hnp
  generalize hW : w.alloc (.cells #[.slice none 0 0, .int .u8 0] 41) = W1 at *
  have HW := Lib.hid hW
  have HN1 := Lib.hid hN1
  have HNW := Lib.hid hnew
  have HB0 := Lib.hid hb0
  have HR := Lib.hid hr
  clear hN1 hnew hb0 hr hbB hl hN ht hA hU hW
  go_enter Tryz.func12, Tryz.ntmps12
  go_wp2_with fail
  rw [HW.out]
  refine hnp.mono ?_
  rintro e w2 ⟨P, RD, rfl, hps, hP, hR, hb2⟩
  have hpg := p23 (w.heap.size + 1) P RD T rd l w2 d hd hps (HN1.out.below hb2) HR.out hP hR hsz
  have hn2 := (hb2.block w.heap.size (Nat.lt_succ_self _)).trans HNW.out
  have hbw := HB0.out.trans (show Below w.heap.size W1 w2 from ⟨hb2.os, hb2.tape, hb2.output, hb2.size, fun k hk => hb2.block k (by omega)⟩)
  have HN2 := Lib.hid hn2
  have HBW := Lib.hid hbw
  have hs2 := hbw.size
  have hlt2 := Lib.lt_of_heap hn2
  clear hnp hps hb2 hn2 hbw
  go_wp2_with fail
  refine hpg.mono ?_
  rintro e w3 ⟨h3, hb3⟩
  have hn3 := (hb3.block w.heap.size (Nat.lt_succ_self _)).trans HN2.out
  have hbw := HBW.out.trans (show Below w.heap.size w2 w3 from ⟨hb3.os, hb3.tape, hb3.output, hb3.size, fun k hk => hb3.block k (by omega)⟩)
  have HN3 := Lib.hid hn3
  have HB3 := Lib.hid hbw
  obtain ⟨a0, a1⟩ := cell_two hn3
  have z := Lib.frozen_of_heap hn3
  clear hpg hb3 hn3 hbw
  cases hn : npoly rd (dimW d) l with
  | none =>
    unfold pgO at h3
    rw [hn] at h3
    obtain ⟨v, rfl, s, rfl⟩ := h3
    have HN := Lib.hid hn
    clear hn
    go_wp2
    refine bodyPost_ret (res_cell2 rfl _ _ w.heap.size 41 #[_, _] (0, 0) _ rfl (rb_heap HN3.out) Tryz.underlying41 (by kernel_rfl)) rfl ?_
    exact ⟨pgO_none HN.out ⟨_, rfl, _, rfl⟩, (HB3.out.setCell (p := ⟨w.heap.size, 0, none⟩) (Nat.le_refl _) _).setCell (p := ⟨w.heap.size, 1, none⟩) (Nat.le_refl _) _⟩
  | some q =>
    obtain ⟨xss, r⟩ := q
    unfold pgO at h3
    rw [hn] at h3
    obtain ⟨ao, c, n, L, rfl, hnl, hm, hrw, hle⟩ := h3
    have HN := Lib.hid hn
    have HNL := Lib.hid hnl
    have HM := Lib.hid hm
    have HRW := Lib.hid hrw
    clear hn hnl hm hrw
    go_wp2
    refine bodyPost_ret (res_cell2 rfl _ _ w.heap.size 41 #[_, _] (0, 0) _ rfl (rb_heap HN3.out) Tryz.underlying41 (by kernel_rfl)) rfl ?_
    exact ⟨pgO_some HN.out ⟨ao, c, n, L, rfl, HNL.out, HM.out, ((HRW.out.setX (g := w.heap.size) hlt2 _).setX hlt2 _).mono hs2, hle⟩, (HB3.out.setCell (p := ⟨w.heap.size, 0, none⟩) (Nat.le_refl _) _).setCell (p := ⟨w.heap.size, 1, none⟩) (Nat.le_refl _) _⟩
end Go.Proofs.YthfjakbpeclfcaaGreatDoor

namespace Go.Proofs.YthfjakbpeclfcaaGreatDoor
open Go.RowKit Go

section
variable {rd : ByteArray → Option Nat} {D : Nat}
theorem npts_mod : ∀ {f : Nat} {a xs : List Nat} {l r : List ByteArray}, npts rd D f a l = some (xs, r) → a.length % D = 0 → xs.length % D = 0 ∧ xs.length ≤ a.length + l.length
  | 0, _, _, _, _, h, _ => by cases h
  | _ + 1, _, _, [], _, h, _ => by cases h
  | f + 1, a, xs, t :: l, r, h, ha => by
    by_cases h1 : t = tRP
    · rw [npts_rp h1] at h
      injection h with h
      injection h with h _
      subst h
      exact ⟨ha, by omega⟩
    · by_cases h2 : t = tCM
      · cases hn : nnum rd D l with
        | none => rw [npts_none h2 hn] at h; cases h
        | some z =>
          obtain ⟨ys, q⟩ := z
          rw [npts_step h2 hn] at h
          obtain ⟨-, h3, h4⟩ := nnum_sub hn
          have := npts_mod h (by rw [List.length_append, h4, Nat.add_mod_right]; exact ha)
          refine ⟨this.1, ?_⟩
          have h5 := this.2
          simp only [List.length_append, List.length_cons] at *
          omega
      · rw [npts_bad h1 h2] at h
        cases h
theorem nline_mod {l r : List ByteArray} {xs : List Nat} (h : nline rd D l = some (xs, r)) : xs.length % D = 0 ∧ xs.length ≤ l.length := by
  cases l with
  | nil => cases h
  | cons t l =>
    by_cases h1 : t = tEMPTY
    · rw [nline_em h1] at h
      injection h with h
      injection h with h _
      subst h
      exact ⟨Nat.zero_mod _, Nat.zero_le _⟩
    · by_cases h2 : t = tLP
      · cases hn : nnum rd D l with
        | none => rw [nline_none h2 hn] at h; cases h
        | some z =>
          obtain ⟨ys, q⟩ := z
          rw [nline_some h2 hn] at h
          obtain ⟨-, h3, h4⟩ := nnum_sub hn
          have := npts_mod h (by rw [h4, Nat.mod_self])
          refine ⟨this.1, ?_⟩
          have h5 := this.2
          simp only [List.length_cons] at *
          omega
      · rw [nline_bad h1 h2] at h
        cases h
theorem nrings_mod {k : Nat} : ∀ {f : Nat} {a xs : List (List Nat)} {l r : List ByteArray}, nrings rd D f a l = some (xs, r) → l.length ≤ k → (∀ x ∈ a, x.length % D = 0 ∧ x.length ≤ k) → ∀ x ∈ xs, x.length % D = 0 ∧ x.length ≤ k
  | 0, _, _, _, _, h, _, _ => by cases h
  | _ + 1, _, _, [], _, h, _, _ => by cases h
  | f + 1, a, xs, t :: l, r, h, hk, ha => by
    by_cases h1 : t = tRP
    · rw [nrings_rp h1] at h
      injection h with h
      injection h with h _
      subst h
      exact ha
    · by_cases h2 : t = tCM
      · cases hn : nline rd D l with
        | none => rw [nrings_none h2 hn] at h; cases h
        | some z =>
          obtain ⟨ys, q⟩ := z
          rw [nrings_step h2 hn] at h
          have h3 := (nline_sub hn).2
          have h4 := nline_mod hn
          simp only [List.length_cons] at hk
          refine nrings_mod h (by omega) (fun x hx => ?_)
          rcases List.mem_append.1 hx with hx | hx
          · exact ha x hx
          · simp at hx
            subst hx
            exact ⟨h4.1, by omega⟩
      · rw [nrings_bad h1 h2] at h
        cases h
theorem npoly_mod {l r : List ByteArray} {xss : List (List Nat)} (h : npoly rd D l = some (xss, r)) : ∀ x ∈ xss, x.length % D = 0 ∧ x.length ≤ l.length := by
  cases l with
  | nil => cases h
  | cons t l =>
    by_cases h1 : t = tEMPTY
    · rw [npoly_em h1] at h
      injection h with h
      injection h with h _
      subst h
      intro x hx
      cases hx
    · by_cases h2 : t = tLP
      · cases hn : nline rd D l with
        | none => rw [npoly_none h2 hn] at h; cases h
        | some z =>
          obtain ⟨ys, q⟩ := z
          rw [npoly_some h2 hn] at h
          have h3 := (nline_sub hn).2
          have h4 := nline_mod hn
          refine nrings_mod h (by simp only [List.length_cons]; omega) (fun x hx => ?_)
          simp at hx
          subst hx
          simp only [List.length_cons]
          exact ⟨h4.1, by omega⟩
      · rw [npoly_bad h1 h2] at h
        cases h
end
/-- What ReadPolygonBody answers. -/
def rbO (X : Nat) (rd : ByteArray → Option Nat) (d : Nat) (l : List ByteArray) (en : Ending) (w' : World) : Prop :=
  match npoly rd (dimW d) l with
  | some (xss, _) => ∃ ao n c L, en = .returned (.tuple #[.agg #[.int .i64 3, .int .i64 d, .slice none 0 0, .slice ao n c], .bool true]) ∧ n = L.length ∧ Kds X d w' (.slice ao n c) L ∧ L.map (·.2) = xss ∧ n ≤ l.length
  | none => en = .returned (.tuple #[.agg #[.int .i64 0, .int .i64 0, .slice none 0 0, .slice none 0 0], .bool false])
theorem rbO_some {X : Nat} {rd : ByteArray → Option Nat} {d : Nat} {l r : List ByteArray} {xss : List (List Nat)} {en : Ending} {w' : World} (h : npoly rd (dimW d) l = some (xss, r)) (h2 : ∃ ao n c L, en = .returned (.tuple #[.agg #[.int .i64 3, .int .i64 d, .slice none 0 0, .slice ao n c], .bool true]) ∧ n = L.length ∧ Kds X d w' (.slice ao n c) L ∧ L.map (·.2) = xss ∧ n ≤ l.length) : rbO X rd d l en w' := by unfold rbO; rw [h]; exact h2
theorem rbO_none {X : Nat} {rd : ByteArray → Option Nat} {d : Nat} {l : List ByteArray} {en : Ending} {w' : World} (h : npoly rd (dimW d) l = none) (h2 : en = .returned (.tuple #[.agg #[.int .i64 0, .int .i64 0, .slice none 0 0, .slice none 0 0], .bool false])) : rbO X rd d l en w' := by unfold rbO; rw [h]; exact h2
set_option maxHeartbeats 4000000 in
set_option maxRecDepth 100000 in
theorem rb5 (B : Nat) (T : ByteArray) (rd : ByteArray → Option Nat) (l : List ByteArray) (w : World) (d : Nat) (hd : d < 4) (hA : Asc T) (hU : NoU T) (hs : T.size ≤ 100000) (ht : Toks T 0 l) (hl : LxW B w) (hN : NumP B w) (hB : B ≤ w.heap.size)
    (hr : ∀ t, t ∈ l → NT t (rd t)) (hsz : l.length ≤ 100000) :
    Calls Tryz.prog 5 #[.string T, .int .i64 d] w fun e w' => rbO w.heap.size rd d l e w' ∧ Below w.heap.size w w' := by
  have hb0 : Below w.heap.size w (w.alloc (.cells #[.int .i64 0, .int .i64 0, .slice none 0 0, .slice none 0 0] 33)) := (Below.refl _ _).alloc (Nat.le_refl _) _
  have hbB : Below B w (w.alloc (.cells #[.int .i64 0, .int .i64 0, .slice none 0 0, .slice none 0 0] 33)) := (Below.refl _ _).alloc hB _
  have hnew := heap_alloc_new w (.cells #[.int .i64 0, .int .i64 0, .slice none 0 0, .slice none 0 0] 33)
  have hsz1 : (w.alloc (.cells #[.int .i64 0, .int .i64 0, .slice none 0 0, .slice none 0 0] 33)).heap.size = w.heap.size + 1 := by simp
  have hdr := door_any B T rd l (w.alloc (.cells #[.int .i64 0, .int .i64 0, .slice none 0 0, .slice none 0 0] 33)) d hd hA hU hs ht (hl.below hbB) (hN.below hbB) (by rw [hsz1]; omega) hr hsz
  have hdm := dimOf_any d hd (w.alloc (.cells #[.int .i64 0, .int .i64 0, .slice none 0 0, .slice none 0 0] 33))
  rw [hsz1] at hdr
  generalize hW : w.alloc (.cells #[.int .i64 0, .int .i64 0, .slice none 0 0, .slice none 0 0] 33) = W1 at *
  have HW := Lib.hid hW
  have HNW := Lib.hid hnew
  have HB0 := Lib.hid hb0
  clear hnew hb0 hr hbB hl hN ht hA hU hW
  go_enter Tryz.func5, Tryz.ntmps5
  go_wp2_with fail
  rw [HW.out]
  refine hdm.mono ?_
  rintro e w' ⟨rfl, hw⟩
  have hw := hw.symm
  subst hw
  go_wp2_with fail
  refine hdr.mono ?_
  rintro e w2 ⟨h2, hb2⟩
  have hn2 := (hb2.block w.heap.size (Nat.lt_succ_self _)).trans HNW.out
  have hbw := HB0.out.trans (show Below w.heap.size W1 w2 from ⟨hb2.os, hb2.tape, hb2.output, hb2.size, fun k hk => hb2.block k (by omega)⟩)
  have HN2 := Lib.hid hn2
  have HB2 := Lib.hid hbw
  have hs2 := hb2.size
  have hlt2 := Lib.lt_of_heap hn2
  clear hdr hdm hb2
  cases hn : npoly rd (dimW d) l with
  | none =>
    unfold pgO at h2
    rw [hn] at h2
    obtain ⟨v, rfl, s, rfl⟩ := h2
    have HN := Lib.hid hn
    obtain ⟨a0, a1, a2, a3⟩ := cell_four hn2
    have z := Lib.frozen_of_heap hn2
    clear hn hn2 hbw
    go_wp2
    refine bodyPost_ret (res_cell2 rfl _ _ w.heap.size 33 #[_, _, _, _] (0, 0) _ rfl ((Below.heap_alloc _ _ _ (Lib.lt_of_heap (f4_heap HN2.out))).trans (f4_heap HN2.out)) Tryz.underlying33 (by kernel_rfl)) rfl ?_
    exact ⟨rbO_none HN.out rfl, (HB2.out.trans ((Below.refl w.heap.size _).grown f4_grown (HB2.out.size) (fun k e => by injection e with e; omega))).alloc (by simp [World.setCell]; omega) _⟩
  | some q =>
    obtain ⟨xss, r⟩ := q
    unfold pgO at h2
    rw [hn] at h2
    obtain ⟨ao, c, n, L, rfl, hnl, hm, hrw, hle⟩ := h2
    have hmod := npoly_mod hn
    have hn3 := (Below.heap_alloc w2 (.cells #[.slice ao n c, .int .u8 d] 41) _ (Lib.lt_of_heap hn2)).trans hn2
    have hb3 := hbw.alloc hbw.size (.cells #[.slice ao n c, .int .u8 d] 41)
    have hpl := poly_any (w.heap.size + 1) (w2.alloc (.cells #[.slice ao n c, .int .u8 d] 41)) d hd ao n c L hnl (hrw.alloc _) (by simp; omega) (fun p hp => by
      have := hmod p.2 (by rw [← hm]; exact List.mem_map_of_mem hp)
      exact ⟨this.1, by omega⟩) (by omega)
    have HN := Lib.hid hn
    have HNL := Lib.hid hnl
    have HM := Lib.hid hm
    have HN3 := Lib.hid hn3
    have HB3 := Lib.hid hb3
    have HLE := Lib.hid hle
    have hs3 : (w2.alloc (.cells #[.slice ao n c, .int .u8 d] 41)).heap.size = w2.heap.size + 1 := by simp
    rw [hs3] at hpl
    clear hn hn2 hbw hn3 hb3 hm hnl hrw hmod hle
    go_wp2_with fail
    refine hpl.mono ?_
    rintro e w4 ⟨⟨v, L', rfl, hk, hm2⟩, hb4⟩
    have hn4 := (hb4.block w.heap.size (by omega)).trans HN3.out
    obtain ⟨a0, a1, a2, a3⟩ := cell_four hn4
    have z := Lib.frozen_of_heap hn4
    obtain ⟨ak, ck, hv⟩ := ownsRow_slice hk.own
    have hll : L'.length = n := by
      have h5 := congrArg List.length hm2
      rw [List.length_map, List.length_map] at h5
      have := HNL.out
      omega
    rw [hll] at hv
    subst hv
    have HLL := Lib.hid hll
    have HN4 := Lib.hid hn4
    have HK := Lib.hid hk
    have HM2 := Lib.hid hm2
    have HB4 := Lib.hid (HB3.out.trans (show Below w.heap.size _ w4 from ⟨hb4.os, hb4.tape, hb4.output, hb4.size, fun k hk => hb4.block k (by omega)⟩))
    clear hn4 hk hm2 hb4 hpl hll
    go_wp2
    refine bodyPost_ret (res_cell2 rfl _ _ w.heap.size 33 #[_, _, _, _] (0, 0) _ rfl (f4_heap HN4.out) Tryz.underlying33 (by kernel_rfl)) rfl ?_
    refine ⟨rbO_some HN.out ⟨ak, n, ck, L', rfl, HLL.out.symm, ?_, by rw [HM2.out, HM.out], by rw [HNL.out]; exact HLE.out⟩, HB4.out.trans ((Below.refl w.heap.size _).grown f4_grown (HB4.out.size) (fun k e => by injection e with e; omega))⟩
    exact ((((HK.out.setB (g := w.heap.size) (by omega) _).setB (by omega) _).setB (by omega) _).setB (by omega) _).mono (by omega)
end Go.Proofs.YthfjakbpeclfcaaGreatDoor
