/-
  The scanner's scanNumber on a decimal of the grammar.
-/
import Derived.Test.YthfjakbpeclfcaaGreatDoorGNa
namespace Go.Proofs.YthfjakbpeclfcaaGreatDoor
open Go.RowKit Go

def dg (k : Nat) : Int := if k = 0 then 0 else 1
theorem dg_pos {k : Nat} (h : 1 ≤ k) : dg k = 1 := if_neg (by omega)
theorem or_dg (k : Nat) : bits .or .i64 1 (dg k) = 1 := by unfold dg; split <;> decide
/-- k digits stand at i, and no more. -/
def ND (T : ByteArray) (i k : Nat) : Prop := (∀ j, j < k → isDec (nxt T (i + j)) = true) ∧ isDec (nxt T (i + k)) = false
theorem ND.uniq {T : ByteArray} {i k m : Nat} (h : ND T i k) (g : ND T i m) : k = m := by
  rcases Nat.lt_trichotomy k m with hl | hl | hl
  · have := g.1 k hl
    rw [h.2] at this
    cases this
  · exact hl
  · have := h.1 m hl
    rw [g.2] at this
    cases this

/-- The scanner within scanNumber: at i, the invalid digit v in block iv. -/
structure NS (B P RD iv : Nat) (tk : Option Nat) (f0 : Flds) (w0 : World) (i : Nat) (v : Int) (w : World) : Prop where
  ex : ∃ f, At B P RD tk i f w ∧ Keep f0 f
  fr : FrV B P RD iv w0 w
  cv : Iv iv v w
  sw : ScW B w
  h1 : iv ≠ P
  h2 : iv ≠ RD
  hB : B ≤ iv
section
variable {B P RD iv : Nat} {tk : Option Nat} {f0 : Flds} {w0 w : World} {i : Nat} {v : Int}
theorem NS.next (h : NS B P RD iv tk f0 w0 i v w) (hi : i < f0.T.size) : Calls Tryz.prog 80 #[.pointer (some ⟨P, 0, none⟩)] w fun en w' => en = .returned (.int .i32 (nxt f0.T (i + 1))) ∧ NS B P RD iv tk f0 w0 (i + 1) v w' := by
  obtain ⟨f, a, k⟩ := h.ex
  refine (a.next (by rw [k.T]; exact hi) h.sw).mono ?_
  rintro en w' ⟨f', rfl, a1, a2, a3⟩
  rw [k.T]
  exact ⟨rfl, ⟨⟨f', a1, k.trans a2⟩, h.fr.trans (a3.v iv), h.cv.fr a3 h.h1 h.h2, h.sw.below a3.bel, h.h1, h.h2, h.hB⟩⟩
theorem NS.dig10 (h : NS B P RD iv tk f0 w0 i v w) (k : Nat) (hk : ND f0.T i k) (pv : Option Addr) : Calls Tryz.prog 104 #[.pointer (some ⟨P, 0, none⟩), .int .i32 (nxt f0.T i), .int .i64 10, .pointer pv] w fun en w' =>
    en = .returned (.tuple #[.int .i32 (nxt f0.T (i + k)), .int .i64 (dg k)]) ∧ NS B P RD iv tk f0 w0 (i + k) v w' := by
  obtain ⟨f, a, kp⟩ := h.ex
  have := digits10 B P RD f w tk i pv a h.sw
  rw [kp.T] at this
  refine this.mono ?_
  rintro en w' ⟨m, f', rfl, b1, b2, b3, b4, b5⟩
  obtain rfl : k = m := hk.uniq ⟨b1, b2⟩
  exact ⟨rfl, ⟨⟨f', b3, kp.trans b4⟩, h.fr.trans (b5.v iv), h.cv.fr b5 h.h1 h.h2, h.sw.below b5.bel, h.h1, h.h2, h.hB⟩⟩
theorem NS.dig8 (h : NS B P RD iv tk f0 w0 i v w) (k : Nat) (hk : ND f0.T i k) : Calls Tryz.prog 104 #[.pointer (some ⟨P, 0, none⟩), .int .i32 (nxt f0.T i), .int .i64 8, .pointer (some ⟨iv, 0, none⟩)] w fun en w' =>
    ∃ u, en = .returned (.tuple #[.int .i32 (nxt f0.T (i + k)), .int .i64 (dg k)]) ∧ NS B P RD iv tk f0 w0 (i + k) u w' ∧ (k = 0 → u = v) := by
  obtain ⟨f, a, kp⟩ := h.ex
  have := digits8 B P RD iv f w tk i v a h.sw h.cv h.h1 h.h2 h.hB
  rw [kp.T] at this
  refine this.mono ?_
  rintro en w' ⟨m, f', u, rfl, b1, b2, b3, b4, b5, b6, b7⟩
  obtain rfl : k = m := hk.uniq ⟨b1, b2⟩
  exact ⟨u, rfl, ⟨⟨f', b3, kp.trans b4⟩, h.fr.trans b5, b6, h.sw.below b5.bel, h.h1, h.h2, h.hB⟩, b7⟩
theorem NS.mode (h : NS B P RD iv tk f0 w0 i v w) : w.cell? ⟨P, 1041, none⟩ = some (.int .u64 28) := by
  obtain ⟨f, a, k⟩ := h.ex
  exact a.s.core.c_mode
end

/-- The exponent at m, up to n. -/
inductive Ex (T : ByteArray) : Nat → Nat → Prop
  | no (m : Nat) (h1 : lowr (nxt T m) ≠ 101) (h2 : lowr (nxt T m) ≠ 112) : Ex T m m
  | plain (m k : Nat) (h1 : lowr (nxt T m) = 101) (h2 : nxt T (m + 1) ≠ 43) (h3 : nxt T (m + 1) ≠ 45) (hk : 1 ≤ k) (hd : ND T (m + 1) k) : Ex T m (m + 1 + k)
  | sign (m k : Nat) (h1 : lowr (nxt T m) = 101) (h2 : nxt T (m + 1) = 43 ∨ nxt T (m + 1) = 45) (hk : 1 ≤ k) (hd : ND T (m + 1 + 1) k) : Ex T m (m + 1 + 1 + k)
theorem low_lt {T : ByteArray} {m : Nat} (h : lowr (nxt T m) = 101) : m < T.size := nxt_lt (fun e => by rw [e] at h; exact absurd h (by decide))
theorem sg_lt {T : ByteArray} {m : Nat} (h : nxt T m = 43 ∨ nxt T m = 45) : m < T.size := nxt_lt (fun e => by rw [e] at h; rcases h with h | h <;> exact absurd h (by decide))
theorem FrV.fresh {B P RD : Nat} {w w' : World} {o : Obj} (h : FrV B P RD w.heap.size (w.alloc o) w') (hB : B ≤ w.heap.size) : Fr B P RD w w' := by
  refine ⟨((Below.refl B w).alloc hB o).trans h.bel, fun k x a b c d => ?_⟩
  have hlt : k < w.heap.size := Lib.lt_of_heap a
  exact h.kept k x (by rw [Below.heap_alloc _ _ _ hlt]; exact a) b c (by omega) d
theorem NS.done {B P RD : Nat} {tk : Option Nat} {f0 : Flds} {w w' : World} {o : Obj} {i : Nat} {v : Int} (h : NS B P RD w.heap.size tk f0 (w.alloc o) i v w') (hB : B ≤ w.heap.size) :
    ∃ f', At B P RD tk i f' w' ∧ Keep f0 f' ∧ Fr B P RD w w' := by
  obtain ⟨f, a, k⟩ := h.ex
  exact ⟨f, a, k, h.fr.fresh hB⟩
theorem At.alloc {B P RD : Nat} {tk : Option Nat} {f : Flds} {w : World} {i : Nat} (h : At B P RD tk i f w) (o : Obj) : At B P RD tk i f (w.alloc o) := by
  have hP := h.s.core.b.lt
  have hR : RD < w.heap.size := Lib.lt_of_heap h.s.core.r
  refine ⟨⟨⟨h.s.core.b.alloc o, Nat.le_trans h.s.core.hs ((Below.refl B w).alloc h.s.core.hs o).size, h.s.core.hr, h.s.core.ne, ?_⟩, h.s.inv⟩, h.lcl, h.asc, h.nou, h.sz⟩
  rw [Below.heap_alloc _ _ _ hR]
  exact h.s.core.r
theorem NS.start {B P RD : Nat} {tk : Option Nat} {f : Flds} {w : World} {i : Nat} (h : At B P RD tk i f w) (hW : ScW B w) : NS B P RD w.heap.size tk f (w.alloc (.cells #[.int .i32 0] 21)) i 0 (w.alloc (.cells #[.int .i32 0] 21)) := by
  have hP := h.s.core.b.lt
  have hR : RD < w.heap.size := Lib.lt_of_heap h.s.core.r
  exact ⟨⟨f, h.alloc _, Keep.refl f⟩, Fr.refl.v _, heap_alloc_new w _, hW.below ((Below.refl B w).alloc h.s.core.hs _), by omega, by omega, h.s.core.hs⟩

/-- What scanNumber yields: the token's kind, and the scanner at its end. -/
def numOut (B P RD : Nat) (tk : Option Nat) (f : Flds) (w : World) (n : Nat) (en : Ending) (w' : World) : Prop :=
  ∃ (t : Int) (f' : Flds), en = .returned (.tuple #[.int .i32 t, .int .i32 (nxt f.T n)]) ∧ (t = -3 ∨ t = -4) ∧ At B P RD tk n f' w' ∧ Keep f f' ∧ Fr B P RD w w'

set_option maxHeartbeats 2000000 in
set_option maxRecDepth 100000 in
theorem sn_H1_no (B P RD : Nat) (f : Flds) (w : World) (tk : Option Nat) (i : Nat) (h : At B P RD tk i f w) (hW : ScW B w) (k : Nat) (hk : 1 ≤ k) (hd : ND f.T i k) (y1 : lowr (nxt f.T (i + k)) ≠ 101) (y2 : lowr (nxt f.T (i + k)) ≠ 112) :
    Calls Tryz.prog 85 #[.pointer (some ⟨P, 0, none⟩), .int .i32 (nxt f.T i), .bool true] w fun en w' => numOut B P RD tk f w (i + k) en w' := by
  have hB := h.s.core.hs
  have N0 := Lib.hid (NS.start h hW)
  have hm : bits .and .u64 28 16 = 16 := by decide
  have ha1 : bits .and .i64 1 1 = 1 := by decide
  have ha2 : bits .and .i64 1 2 = 0 := by decide
  clear h hW
  have hdk := dg_pos hk
  have o1 : bits .or .i64 0 1 = 1 := by decide
  have p1 : (lowr (nxt f.T (i + k)) == 101) = false := by simpa using y1
  have p2 : (lowr (nxt f.T (i + k)) == 112) = false := by simpa using y2
  clear y1 y2
  go_enter Tryz.func85, Tryz.ntmps85
  go_wp2_with fail
  refine (N0.out.dig10 k hd _).mono ?_
  rintro e w1 ⟨rfl, n1⟩
  have M1 := n1.mode
  have I1 := n1.cv.cell
  have N1 := Lib.hid n1
  clear n1
  go_wp2_with fail
  refine (lowr_any _ _).mono ?_
  rintro e w' ⟨rfl, rfl⟩
  go_wp2
  refine bodyPost_ret (results_tmp2 rfl _ _ _) rfl ?_
  obtain ⟨f', b1, b2, b3⟩ := N1.out.done hB
  exact ⟨_, f', rfl, .inr rfl, b1, b2, b3⟩

set_option maxHeartbeats 2000000 in
set_option maxRecDepth 100000 in
theorem sn_H1_plain (B P RD : Nat) (f : Flds) (w : World) (tk : Option Nat) (i : Nat) (h : At B P RD tk i f w) (hW : ScW B w) (k : Nat) (hk : 1 ≤ k) (hd : ND f.T i k) (y1 : lowr (nxt f.T (i + k)) = 101) (y2 : nxt f.T ((i + k) + 1) ≠ 43) (y3 : nxt f.T ((i + k) + 1) ≠ 45) (c : Nat) (hc : 1 ≤ c) (hdc : ND f.T ((i + k) + 1) c) :
    Calls Tryz.prog 85 #[.pointer (some ⟨P, 0, none⟩), .int .i32 (nxt f.T i), .bool true] w fun en w' => numOut B P RD tk f w ((i + k) + 1 + c) en w' := by
  have hB := h.s.core.hs
  have N0 := Lib.hid (NS.start h hW)
  have hm : bits .and .u64 28 16 = 16 := by decide
  have ha1 : bits .and .i64 1 1 = 1 := by decide
  have ha2 : bits .and .i64 1 2 = 0 := by decide
  clear h hW
  have hdk := dg_pos hk
  have o1 : bits .or .i64 0 1 = 1 := by decide
  have hlm : (i + k) < f.T.size := low_lt y1
  have p1 : (lowr (nxt f.T (i + k)) == 101) = true := by rw [y1]; rfl
  have p2 : (lowr (nxt f.T (i + k)) == 112) = false := by rw [y1]; rfl
  have hdc1 := dg_pos hc
  have oc := or_dg c
  clear y1
  have p3 : (nxt f.T ((i + k) + 1) == 43) = false := by simpa using y2
  have p4 : (nxt f.T ((i + k) + 1) == 45) = false := by simpa using y3
  clear y2 y3
  go_enter Tryz.func85, Tryz.ntmps85
  go_wp2_with fail
  refine (N0.out.dig10 k hd _).mono ?_
  rintro e w1 ⟨rfl, n1⟩
  have M1 := n1.mode
  have I1 := n1.cv.cell
  have N1 := Lib.hid n1
  clear n1
  go_wp2_with fail
  refine (lowr_any _ _).mono ?_
  rintro e w' ⟨rfl, rfl⟩
  go_wp2_with fail
  refine (N1.out.next hlm).mono ?_
  rintro e w7 ⟨rfl, n7⟩
  have M7 := n7.mode
  have I7 := n7.cv.cell
  have N7 := Lib.hid n7
  clear n7
  go_wp2_with fail
  refine (N7.out.dig10 c hdc _).mono ?_
  rintro e w8 ⟨rfl, n8⟩
  have M8 := n8.mode
  have I8 := n8.cv.cell
  have N8 := Lib.hid n8
  clear n8
  go_wp2
  refine bodyPost_ret (results_tmp2 rfl _ _ _) rfl ?_
  obtain ⟨f', b1, b2, b3⟩ := N8.out.done hB
  exact ⟨_, f', rfl, .inr rfl, b1, b2, b3⟩

set_option maxHeartbeats 2000000 in
set_option maxRecDepth 100000 in
theorem sn_H1_sign (B P RD : Nat) (f : Flds) (w : World) (tk : Option Nat) (i : Nat) (h : At B P RD tk i f w) (hW : ScW B w) (k : Nat) (hk : 1 ≤ k) (hd : ND f.T i k) (y1 : lowr (nxt f.T (i + k)) = 101) (y2 : nxt f.T ((i + k) + 1) = 43 ∨ nxt f.T ((i + k) + 1) = 45) (c : Nat) (hc : 1 ≤ c) (hdc : ND f.T ((i + k) + 1 + 1) c) :
    Calls Tryz.prog 85 #[.pointer (some ⟨P, 0, none⟩), .int .i32 (nxt f.T i), .bool true] w fun en w' => numOut B P RD tk f w ((i + k) + 1 + 1 + c) en w' := by
  have hB := h.s.core.hs
  have N0 := Lib.hid (NS.start h hW)
  have hm : bits .and .u64 28 16 = 16 := by decide
  have ha1 : bits .and .i64 1 1 = 1 := by decide
  have ha2 : bits .and .i64 1 2 = 0 := by decide
  clear h hW
  have hdk := dg_pos hk
  have o1 : bits .or .i64 0 1 = 1 := by decide
  have hlm : (i + k) < f.T.size := low_lt y1
  have p1 : (lowr (nxt f.T (i + k)) == 101) = true := by rw [y1]; rfl
  have p2 : (lowr (nxt f.T (i + k)) == 112) = false := by rw [y1]; rfl
  have hdc1 := dg_pos hc
  have oc := or_dg c
  clear y1
  have hls : (i + k) + 1 < f.T.size := sg_lt y2
  go_enter Tryz.func85, Tryz.ntmps85
  go_wp2_with fail
  refine (N0.out.dig10 k hd _).mono ?_
  rintro e w1 ⟨rfl, n1⟩
  have M1 := n1.mode
  have I1 := n1.cv.cell
  have N1 := Lib.hid n1
  clear n1
  go_wp2_with fail
  refine (lowr_any _ _).mono ?_
  rintro e w' ⟨rfl, rfl⟩
  go_wp2_with fail
  refine (N1.out.next hlm).mono ?_
  rintro e w7 ⟨rfl, n7⟩
  have M7 := n7.mode
  have I7 := n7.cv.cell
  have N7 := Lib.hid n7
  clear n7
  rcases y2 with y2 | y2
  · have p3 : (nxt f.T ((i + k) + 1) == 43) = true := by rw [y2]; rfl
    have p4 : (nxt f.T ((i + k) + 1) == 45) = false := by rw [y2]; rfl
    clear y2
    go_wp2_with fail
    refine (N7.out.next hls).mono ?_
    rintro e w9 ⟨rfl, n9⟩
    have M9 := n9.mode
    have I9 := n9.cv.cell
    have N9 := Lib.hid n9
    clear n9
    go_wp2_with fail
    refine (N9.out.dig10 c hdc _).mono ?_
    rintro e w8 ⟨rfl, n8⟩
    have M8 := n8.mode
    have I8 := n8.cv.cell
    have N8 := Lib.hid n8
    clear n8
    go_wp2
    refine bodyPost_ret (results_tmp2 rfl _ _ _) rfl ?_
    obtain ⟨f', b1, b2, b3⟩ := N8.out.done hB
    exact ⟨_, f', rfl, .inr rfl, b1, b2, b3⟩
  · have p3 : (nxt f.T ((i + k) + 1) == 43) = false := by rw [y2]; rfl
    have p4 : (nxt f.T ((i + k) + 1) == 45) = true := by rw [y2]; rfl
    clear y2
    go_wp2_with fail
    refine (N7.out.next hls).mono ?_
    rintro e w9 ⟨rfl, n9⟩
    have M9 := n9.mode
    have I9 := n9.cv.cell
    have N9 := Lib.hid n9
    clear n9
    go_wp2_with fail
    refine (N9.out.dig10 c hdc _).mono ?_
    rintro e w8 ⟨rfl, n8⟩
    have M8 := n8.mode
    have I8 := n8.cv.cell
    have N8 := Lib.hid n8
    clear n8
    go_wp2
    refine bodyPost_ret (results_tmp2 rfl _ _ _) rfl ?_
    obtain ⟨f', b1, b2, b3⟩ := N8.out.done hB
    exact ⟨_, f', rfl, .inr rfl, b1, b2, b3⟩

set_option maxHeartbeats 2000000 in
set_option maxRecDepth 100000 in
theorem sn_H2_no (B P RD : Nat) (f : Flds) (w : World) (tk : Option Nat) (i : Nat) (h : At B P RD tk i f w) (hW : ScW B w) (h48 : nxt f.T i = 48) (hd : ND f.T (i + 1) 0) (x1 : lowr (nxt f.T (i + 1)) ≠ 120) (x2 : lowr (nxt f.T (i + 1)) ≠ 111) (x3 : lowr (nxt f.T (i + 1)) ≠ 98) (hdot : nxt f.T (i + 1) ≠ 46) (y1 : lowr (nxt f.T (i + 1)) ≠ 101) (y2 : lowr (nxt f.T (i + 1)) ≠ 112) :
    Calls Tryz.prog 85 #[.pointer (some ⟨P, 0, none⟩), .int .i32 (nxt f.T i), .bool false] w fun en w' => numOut B P RD tk f w (i + 1) en w' := by
  have hB := h.s.core.hs
  have N0 := Lib.hid (NS.start h hW)
  have hm : bits .and .u64 28 16 = 16 := by decide
  have ha1 : bits .and .i64 1 1 = 1 := by decide
  have ha2 : bits .and .i64 1 2 = 0 := by decide
  clear h hW
  have hlt : i < f.T.size := nxt_lt (by rw [h48]; decide)
  have q1 : (nxt f.T i == 48) = true := by rw [h48]; rfl
  have q2 : (lowr (nxt f.T (i + 1)) == 120) = false := by simpa using x1
  have q3 : (lowr (nxt f.T (i + 1)) == 111) = false := by simpa using x2
  have q4 : (lowr (nxt f.T (i + 1)) == 98) = false := by simpa using x3
  have q5 : (nxt f.T (i + 1) == 46) = false := by simpa using hdot
  have o1 := or_dg 0
  clear h48 x1 x2 x3 hdot
  have p1 : (lowr (nxt f.T (i + 1)) == 101) = false := by simpa using y1
  have p2 : (lowr (nxt f.T (i + 1)) == 112) = false := by simpa using y2
  clear y1 y2
  go_enter Tryz.func85, Tryz.ntmps85
  go_wp2_with fail
  refine (N0.out.next hlt).mono ?_
  rintro e w1 ⟨rfl, n1⟩
  have M1 := n1.mode
  have I1 := n1.cv.cell
  have N1 := Lib.hid n1
  clear n1
  go_wp2_with fail
  refine (lowr_any _ _).mono ?_
  rintro e w' ⟨rfl, rfl⟩
  go_wp2_with fail
  refine (N1.out.dig8 0 hd).mono ?_
  rintro e w2 ⟨u2, rfl, n2, z2⟩
  obtain rfl := z2 rfl
  have M2 := n2.mode
  have I2 := n2.cv.cell
  have N2 : Go.RowKit.Hid (NS B P RD w.heap.size tk f (w.alloc (.cells #[.int .i32 0] 21)) (i + 1) 0 w2) := Lib.hid n2
  clear n2
  go_wp2_with fail
  refine (lowr_any _ _).mono ?_
  rintro e w' ⟨rfl, rfl⟩
  go_wp2
  refine bodyPost_ret (results_tmp2 rfl _ _ _) rfl ?_
  obtain ⟨f', b1, b2, b3⟩ := N2.out.done hB
  exact ⟨_, f', rfl, .inl rfl, b1, b2, b3⟩

set_option maxHeartbeats 2000000 in
set_option maxRecDepth 100000 in
theorem sn_H2_plain (B P RD : Nat) (f : Flds) (w : World) (tk : Option Nat) (i : Nat) (h : At B P RD tk i f w) (hW : ScW B w) (h48 : nxt f.T i = 48) (hd : ND f.T (i + 1) 0) (x1 : lowr (nxt f.T (i + 1)) ≠ 120) (x2 : lowr (nxt f.T (i + 1)) ≠ 111) (x3 : lowr (nxt f.T (i + 1)) ≠ 98) (hdot : nxt f.T (i + 1) ≠ 46) (y1 : lowr (nxt f.T (i + 1)) = 101) (y2 : nxt f.T ((i + 1) + 1) ≠ 43) (y3 : nxt f.T ((i + 1) + 1) ≠ 45) (c : Nat) (hc : 1 ≤ c) (hdc : ND f.T ((i + 1) + 1) c) :
    Calls Tryz.prog 85 #[.pointer (some ⟨P, 0, none⟩), .int .i32 (nxt f.T i), .bool false] w fun en w' => numOut B P RD tk f w ((i + 1) + 1 + c) en w' := by
  have hB := h.s.core.hs
  have N0 := Lib.hid (NS.start h hW)
  have hm : bits .and .u64 28 16 = 16 := by decide
  have ha1 : bits .and .i64 1 1 = 1 := by decide
  have ha2 : bits .and .i64 1 2 = 0 := by decide
  clear h hW
  have hlt : i < f.T.size := nxt_lt (by rw [h48]; decide)
  have q1 : (nxt f.T i == 48) = true := by rw [h48]; rfl
  have q2 : (lowr (nxt f.T (i + 1)) == 120) = false := by simpa using x1
  have q3 : (lowr (nxt f.T (i + 1)) == 111) = false := by simpa using x2
  have q4 : (lowr (nxt f.T (i + 1)) == 98) = false := by simpa using x3
  have q5 : (nxt f.T (i + 1) == 46) = false := by simpa using hdot
  have o1 := or_dg 0
  clear h48 x1 x2 x3 hdot
  have hlm : (i + 1) < f.T.size := low_lt y1
  have p1 : (lowr (nxt f.T (i + 1)) == 101) = true := by rw [y1]; rfl
  have p2 : (lowr (nxt f.T (i + 1)) == 112) = false := by rw [y1]; rfl
  have hdc1 := dg_pos hc
  have oc := or_dg c
  clear y1
  have p3 : (nxt f.T ((i + 1) + 1) == 43) = false := by simpa using y2
  have p4 : (nxt f.T ((i + 1) + 1) == 45) = false := by simpa using y3
  clear y2 y3
  go_enter Tryz.func85, Tryz.ntmps85
  go_wp2_with fail
  refine (N0.out.next hlt).mono ?_
  rintro e w1 ⟨rfl, n1⟩
  have M1 := n1.mode
  have I1 := n1.cv.cell
  have N1 := Lib.hid n1
  clear n1
  go_wp2_with fail
  refine (lowr_any _ _).mono ?_
  rintro e w' ⟨rfl, rfl⟩
  go_wp2_with fail
  refine (N1.out.dig8 0 hd).mono ?_
  rintro e w2 ⟨u2, rfl, n2, z2⟩
  obtain rfl := z2 rfl
  have M2 := n2.mode
  have I2 := n2.cv.cell
  have N2 : Go.RowKit.Hid (NS B P RD w.heap.size tk f (w.alloc (.cells #[.int .i32 0] 21)) (i + 1) 0 w2) := Lib.hid n2
  clear n2
  go_wp2_with fail
  refine (lowr_any _ _).mono ?_
  rintro e w' ⟨rfl, rfl⟩
  go_wp2_with fail
  refine (N2.out.next hlm).mono ?_
  rintro e w7 ⟨rfl, n7⟩
  have M7 := n7.mode
  have I7 := n7.cv.cell
  have N7 := Lib.hid n7
  clear n7
  go_wp2_with fail
  refine (N7.out.dig10 c hdc _).mono ?_
  rintro e w8 ⟨rfl, n8⟩
  have M8 := n8.mode
  have I8 := n8.cv.cell
  have N8 := Lib.hid n8
  clear n8
  go_wp2
  refine bodyPost_ret (results_tmp2 rfl _ _ _) rfl ?_
  obtain ⟨f', b1, b2, b3⟩ := N8.out.done hB
  exact ⟨_, f', rfl, .inr rfl, b1, b2, b3⟩

set_option maxHeartbeats 2000000 in
set_option maxRecDepth 100000 in
theorem sn_H2_sign (B P RD : Nat) (f : Flds) (w : World) (tk : Option Nat) (i : Nat) (h : At B P RD tk i f w) (hW : ScW B w) (h48 : nxt f.T i = 48) (hd : ND f.T (i + 1) 0) (x1 : lowr (nxt f.T (i + 1)) ≠ 120) (x2 : lowr (nxt f.T (i + 1)) ≠ 111) (x3 : lowr (nxt f.T (i + 1)) ≠ 98) (hdot : nxt f.T (i + 1) ≠ 46) (y1 : lowr (nxt f.T (i + 1)) = 101) (y2 : nxt f.T ((i + 1) + 1) = 43 ∨ nxt f.T ((i + 1) + 1) = 45) (c : Nat) (hc : 1 ≤ c) (hdc : ND f.T ((i + 1) + 1 + 1) c) :
    Calls Tryz.prog 85 #[.pointer (some ⟨P, 0, none⟩), .int .i32 (nxt f.T i), .bool false] w fun en w' => numOut B P RD tk f w ((i + 1) + 1 + 1 + c) en w' := by
  have hB := h.s.core.hs
  have N0 := Lib.hid (NS.start h hW)
  have hm : bits .and .u64 28 16 = 16 := by decide
  have ha1 : bits .and .i64 1 1 = 1 := by decide
  have ha2 : bits .and .i64 1 2 = 0 := by decide
  clear h hW
  have hlt : i < f.T.size := nxt_lt (by rw [h48]; decide)
  have q1 : (nxt f.T i == 48) = true := by rw [h48]; rfl
  have q2 : (lowr (nxt f.T (i + 1)) == 120) = false := by simpa using x1
  have q3 : (lowr (nxt f.T (i + 1)) == 111) = false := by simpa using x2
  have q4 : (lowr (nxt f.T (i + 1)) == 98) = false := by simpa using x3
  have q5 : (nxt f.T (i + 1) == 46) = false := by simpa using hdot
  have o1 := or_dg 0
  clear h48 x1 x2 x3 hdot
  have hlm : (i + 1) < f.T.size := low_lt y1
  have p1 : (lowr (nxt f.T (i + 1)) == 101) = true := by rw [y1]; rfl
  have p2 : (lowr (nxt f.T (i + 1)) == 112) = false := by rw [y1]; rfl
  have hdc1 := dg_pos hc
  have oc := or_dg c
  clear y1
  have hls : (i + 1) + 1 < f.T.size := sg_lt y2
  go_enter Tryz.func85, Tryz.ntmps85
  go_wp2_with fail
  refine (N0.out.next hlt).mono ?_
  rintro e w1 ⟨rfl, n1⟩
  have M1 := n1.mode
  have I1 := n1.cv.cell
  have N1 := Lib.hid n1
  clear n1
  go_wp2_with fail
  refine (lowr_any _ _).mono ?_
  rintro e w' ⟨rfl, rfl⟩
  go_wp2_with fail
  refine (N1.out.dig8 0 hd).mono ?_
  rintro e w2 ⟨u2, rfl, n2, z2⟩
  obtain rfl := z2 rfl
  have M2 := n2.mode
  have I2 := n2.cv.cell
  have N2 : Go.RowKit.Hid (NS B P RD w.heap.size tk f (w.alloc (.cells #[.int .i32 0] 21)) (i + 1) 0 w2) := Lib.hid n2
  clear n2
  go_wp2_with fail
  refine (lowr_any _ _).mono ?_
  rintro e w' ⟨rfl, rfl⟩
  go_wp2_with fail
  refine (N2.out.next hlm).mono ?_
  rintro e w7 ⟨rfl, n7⟩
  have M7 := n7.mode
  have I7 := n7.cv.cell
  have N7 := Lib.hid n7
  clear n7
  rcases y2 with y2 | y2
  · have p3 : (nxt f.T ((i + 1) + 1) == 43) = true := by rw [y2]; rfl
    have p4 : (nxt f.T ((i + 1) + 1) == 45) = false := by rw [y2]; rfl
    clear y2
    go_wp2_with fail
    refine (N7.out.next hls).mono ?_
    rintro e w9 ⟨rfl, n9⟩
    have M9 := n9.mode
    have I9 := n9.cv.cell
    have N9 := Lib.hid n9
    clear n9
    go_wp2_with fail
    refine (N9.out.dig10 c hdc _).mono ?_
    rintro e w8 ⟨rfl, n8⟩
    have M8 := n8.mode
    have I8 := n8.cv.cell
    have N8 := Lib.hid n8
    clear n8
    go_wp2
    refine bodyPost_ret (results_tmp2 rfl _ _ _) rfl ?_
    obtain ⟨f', b1, b2, b3⟩ := N8.out.done hB
    exact ⟨_, f', rfl, .inr rfl, b1, b2, b3⟩
  · have p3 : (nxt f.T ((i + 1) + 1) == 43) = false := by rw [y2]; rfl
    have p4 : (nxt f.T ((i + 1) + 1) == 45) = true := by rw [y2]; rfl
    clear y2
    go_wp2_with fail
    refine (N7.out.next hls).mono ?_
    rintro e w9 ⟨rfl, n9⟩
    have M9 := n9.mode
    have I9 := n9.cv.cell
    have N9 := Lib.hid n9
    clear n9
    go_wp2_with fail
    refine (N9.out.dig10 c hdc _).mono ?_
    rintro e w8 ⟨rfl, n8⟩
    have M8 := n8.mode
    have I8 := n8.cv.cell
    have N8 := Lib.hid n8
    clear n8
    go_wp2
    refine bodyPost_ret (results_tmp2 rfl _ _ _) rfl ?_
    obtain ⟨f', b1, b2, b3⟩ := N8.out.done hB
    exact ⟨_, f', rfl, .inr rfl, b1, b2, b3⟩

set_option maxHeartbeats 2000000 in
set_option maxRecDepth 100000 in
theorem sn_H3_no (B P RD : Nat) (f : Flds) (w : World) (tk : Option Nat) (i : Nat) (h : At B P RD tk i f w) (hW : ScW B w) (b : Nat) (h48 : nxt f.T i = 48) (hd : ND f.T (i + 1) 0) (hdot : nxt f.T (i + 1) = 46) (hd2 : ND f.T (i + 1 + 1) b) (y1 : lowr (nxt f.T (i + 1 + 1 + b)) ≠ 101) (y2 : lowr (nxt f.T (i + 1 + 1 + b)) ≠ 112) :
    Calls Tryz.prog 85 #[.pointer (some ⟨P, 0, none⟩), .int .i32 (nxt f.T i), .bool false] w fun en w' => numOut B P RD tk f w (i + 1 + 1 + b) en w' := by
  have hB := h.s.core.hs
  have N0 := Lib.hid (NS.start h hW)
  have hm : bits .and .u64 28 16 = 16 := by decide
  have ha1 : bits .and .i64 1 1 = 1 := by decide
  have ha2 : bits .and .i64 1 2 = 0 := by decide
  clear h hW
  have hlt : i < f.T.size := nxt_lt (by rw [h48]; decide)
  have hlt2 : i + 1 < f.T.size := nxt_lt (by rw [hdot]; decide)
  have q1 : (nxt f.T i == 48) = true := by rw [h48]; rfl
  have q2 : (lowr (nxt f.T (i + 1)) == 120) = false := by rw [hdot]; rfl
  have q3 : (lowr (nxt f.T (i + 1)) == 111) = false := by rw [hdot]; rfl
  have q4 : (lowr (nxt f.T (i + 1)) == 98) = false := by rw [hdot]; rfl
  have q5 : (nxt f.T (i + 1) == 46) = true := by rw [hdot]; rfl
  have o1 := or_dg 0
  have o2 := or_dg b
  clear h48 hdot
  have p1 : (lowr (nxt f.T (i + 1 + 1 + b)) == 101) = false := by simpa using y1
  have p2 : (lowr (nxt f.T (i + 1 + 1 + b)) == 112) = false := by simpa using y2
  clear y1 y2
  go_enter Tryz.func85, Tryz.ntmps85
  go_wp2_with fail
  refine (N0.out.next hlt).mono ?_
  rintro e w1 ⟨rfl, n1⟩
  have M1 := n1.mode
  have I1 := n1.cv.cell
  have N1 := Lib.hid n1
  clear n1
  go_wp2_with fail
  refine (lowr_any _ _).mono ?_
  rintro e w' ⟨rfl, rfl⟩
  go_wp2_with fail
  refine (N1.out.dig8 0 hd).mono ?_
  rintro e w2 ⟨u2, rfl, n2, z2⟩
  obtain rfl := z2 rfl
  have M2 := n2.mode
  have I2 := n2.cv.cell
  have N2 : Go.RowKit.Hid (NS B P RD w.heap.size tk f (w.alloc (.cells #[.int .i32 0] 21)) (i + 1) 0 w2) := Lib.hid n2
  clear n2
  go_wp2_with fail
  refine (N2.out.next hlt2).mono ?_
  rintro e w3 ⟨rfl, n3⟩
  have M3 := n3.mode
  have I3 := n3.cv.cell
  have N3 := Lib.hid n3
  clear n3
  go_wp2_with fail
  refine (N3.out.dig8 b hd2).mono ?_
  rintro e w4 ⟨u4, rfl, n4, z4⟩
  have M4 := n4.mode
  have I4 := n4.cv.cell
  have N4 := Lib.hid n4
  clear n4 z4
  go_wp2_with fail
  refine (lowr_any _ _).mono ?_
  rintro e w' ⟨rfl, rfl⟩
  go_wp2
  refine bodyPost_ret (results_tmp2 rfl _ _ _) rfl ?_
  obtain ⟨f', b1, b2, b3⟩ := N4.out.done hB
  exact ⟨_, f', rfl, .inr rfl, b1, b2, b3⟩

set_option maxHeartbeats 2000000 in
set_option maxRecDepth 100000 in
theorem sn_H3_plain (B P RD : Nat) (f : Flds) (w : World) (tk : Option Nat) (i : Nat) (h : At B P RD tk i f w) (hW : ScW B w) (b : Nat) (h48 : nxt f.T i = 48) (hd : ND f.T (i + 1) 0) (hdot : nxt f.T (i + 1) = 46) (hd2 : ND f.T (i + 1 + 1) b) (y1 : lowr (nxt f.T (i + 1 + 1 + b)) = 101) (y2 : nxt f.T ((i + 1 + 1 + b) + 1) ≠ 43) (y3 : nxt f.T ((i + 1 + 1 + b) + 1) ≠ 45) (c : Nat) (hc : 1 ≤ c) (hdc : ND f.T ((i + 1 + 1 + b) + 1) c) :
    Calls Tryz.prog 85 #[.pointer (some ⟨P, 0, none⟩), .int .i32 (nxt f.T i), .bool false] w fun en w' => numOut B P RD tk f w ((i + 1 + 1 + b) + 1 + c) en w' := by
  have hB := h.s.core.hs
  have N0 := Lib.hid (NS.start h hW)
  have hm : bits .and .u64 28 16 = 16 := by decide
  have ha1 : bits .and .i64 1 1 = 1 := by decide
  have ha2 : bits .and .i64 1 2 = 0 := by decide
  clear h hW
  have hlt : i < f.T.size := nxt_lt (by rw [h48]; decide)
  have hlt2 : i + 1 < f.T.size := nxt_lt (by rw [hdot]; decide)
  have q1 : (nxt f.T i == 48) = true := by rw [h48]; rfl
  have q2 : (lowr (nxt f.T (i + 1)) == 120) = false := by rw [hdot]; rfl
  have q3 : (lowr (nxt f.T (i + 1)) == 111) = false := by rw [hdot]; rfl
  have q4 : (lowr (nxt f.T (i + 1)) == 98) = false := by rw [hdot]; rfl
  have q5 : (nxt f.T (i + 1) == 46) = true := by rw [hdot]; rfl
  have o1 := or_dg 0
  have o2 := or_dg b
  clear h48 hdot
  have hlm : (i + 1 + 1 + b) < f.T.size := low_lt y1
  have p1 : (lowr (nxt f.T (i + 1 + 1 + b)) == 101) = true := by rw [y1]; rfl
  have p2 : (lowr (nxt f.T (i + 1 + 1 + b)) == 112) = false := by rw [y1]; rfl
  have hdc1 := dg_pos hc
  have oc := or_dg c
  clear y1
  have p3 : (nxt f.T ((i + 1 + 1 + b) + 1) == 43) = false := by simpa using y2
  have p4 : (nxt f.T ((i + 1 + 1 + b) + 1) == 45) = false := by simpa using y3
  clear y2 y3
  go_enter Tryz.func85, Tryz.ntmps85
  go_wp2_with fail
  refine (N0.out.next hlt).mono ?_
  rintro e w1 ⟨rfl, n1⟩
  have M1 := n1.mode
  have I1 := n1.cv.cell
  have N1 := Lib.hid n1
  clear n1
  go_wp2_with fail
  refine (lowr_any _ _).mono ?_
  rintro e w' ⟨rfl, rfl⟩
  go_wp2_with fail
  refine (N1.out.dig8 0 hd).mono ?_
  rintro e w2 ⟨u2, rfl, n2, z2⟩
  obtain rfl := z2 rfl
  have M2 := n2.mode
  have I2 := n2.cv.cell
  have N2 : Go.RowKit.Hid (NS B P RD w.heap.size tk f (w.alloc (.cells #[.int .i32 0] 21)) (i + 1) 0 w2) := Lib.hid n2
  clear n2
  go_wp2_with fail
  refine (N2.out.next hlt2).mono ?_
  rintro e w3 ⟨rfl, n3⟩
  have M3 := n3.mode
  have I3 := n3.cv.cell
  have N3 := Lib.hid n3
  clear n3
  go_wp2_with fail
  refine (N3.out.dig8 b hd2).mono ?_
  rintro e w4 ⟨u4, rfl, n4, z4⟩
  have M4 := n4.mode
  have I4 := n4.cv.cell
  have N4 := Lib.hid n4
  clear n4 z4
  go_wp2_with fail
  refine (lowr_any _ _).mono ?_
  rintro e w' ⟨rfl, rfl⟩
  go_wp2_with fail
  refine (N4.out.next hlm).mono ?_
  rintro e w7 ⟨rfl, n7⟩
  have M7 := n7.mode
  have I7 := n7.cv.cell
  have N7 := Lib.hid n7
  clear n7
  go_wp2_with fail
  refine (N7.out.dig10 c hdc _).mono ?_
  rintro e w8 ⟨rfl, n8⟩
  have M8 := n8.mode
  have I8 := n8.cv.cell
  have N8 := Lib.hid n8
  clear n8
  go_wp2
  refine bodyPost_ret (results_tmp2 rfl _ _ _) rfl ?_
  obtain ⟨f', b1, b2, b3⟩ := N8.out.done hB
  exact ⟨_, f', rfl, .inr rfl, b1, b2, b3⟩

set_option maxHeartbeats 2000000 in
set_option maxRecDepth 100000 in
theorem sn_H3_sign (B P RD : Nat) (f : Flds) (w : World) (tk : Option Nat) (i : Nat) (h : At B P RD tk i f w) (hW : ScW B w) (b : Nat) (h48 : nxt f.T i = 48) (hd : ND f.T (i + 1) 0) (hdot : nxt f.T (i + 1) = 46) (hd2 : ND f.T (i + 1 + 1) b) (y1 : lowr (nxt f.T (i + 1 + 1 + b)) = 101) (y2 : nxt f.T ((i + 1 + 1 + b) + 1) = 43 ∨ nxt f.T ((i + 1 + 1 + b) + 1) = 45) (c : Nat) (hc : 1 ≤ c) (hdc : ND f.T ((i + 1 + 1 + b) + 1 + 1) c) :
    Calls Tryz.prog 85 #[.pointer (some ⟨P, 0, none⟩), .int .i32 (nxt f.T i), .bool false] w fun en w' => numOut B P RD tk f w ((i + 1 + 1 + b) + 1 + 1 + c) en w' := by
  have hB := h.s.core.hs
  have N0 := Lib.hid (NS.start h hW)
  have hm : bits .and .u64 28 16 = 16 := by decide
  have ha1 : bits .and .i64 1 1 = 1 := by decide
  have ha2 : bits .and .i64 1 2 = 0 := by decide
  clear h hW
  have hlt : i < f.T.size := nxt_lt (by rw [h48]; decide)
  have hlt2 : i + 1 < f.T.size := nxt_lt (by rw [hdot]; decide)
  have q1 : (nxt f.T i == 48) = true := by rw [h48]; rfl
  have q2 : (lowr (nxt f.T (i + 1)) == 120) = false := by rw [hdot]; rfl
  have q3 : (lowr (nxt f.T (i + 1)) == 111) = false := by rw [hdot]; rfl
  have q4 : (lowr (nxt f.T (i + 1)) == 98) = false := by rw [hdot]; rfl
  have q5 : (nxt f.T (i + 1) == 46) = true := by rw [hdot]; rfl
  have o1 := or_dg 0
  have o2 := or_dg b
  clear h48 hdot
  have hlm : (i + 1 + 1 + b) < f.T.size := low_lt y1
  have p1 : (lowr (nxt f.T (i + 1 + 1 + b)) == 101) = true := by rw [y1]; rfl
  have p2 : (lowr (nxt f.T (i + 1 + 1 + b)) == 112) = false := by rw [y1]; rfl
  have hdc1 := dg_pos hc
  have oc := or_dg c
  clear y1
  have hls : (i + 1 + 1 + b) + 1 < f.T.size := sg_lt y2
  go_enter Tryz.func85, Tryz.ntmps85
  go_wp2_with fail
  refine (N0.out.next hlt).mono ?_
  rintro e w1 ⟨rfl, n1⟩
  have M1 := n1.mode
  have I1 := n1.cv.cell
  have N1 := Lib.hid n1
  clear n1
  go_wp2_with fail
  refine (lowr_any _ _).mono ?_
  rintro e w' ⟨rfl, rfl⟩
  go_wp2_with fail
  refine (N1.out.dig8 0 hd).mono ?_
  rintro e w2 ⟨u2, rfl, n2, z2⟩
  obtain rfl := z2 rfl
  have M2 := n2.mode
  have I2 := n2.cv.cell
  have N2 : Go.RowKit.Hid (NS B P RD w.heap.size tk f (w.alloc (.cells #[.int .i32 0] 21)) (i + 1) 0 w2) := Lib.hid n2
  clear n2
  go_wp2_with fail
  refine (N2.out.next hlt2).mono ?_
  rintro e w3 ⟨rfl, n3⟩
  have M3 := n3.mode
  have I3 := n3.cv.cell
  have N3 := Lib.hid n3
  clear n3
  go_wp2_with fail
  refine (N3.out.dig8 b hd2).mono ?_
  rintro e w4 ⟨u4, rfl, n4, z4⟩
  have M4 := n4.mode
  have I4 := n4.cv.cell
  have N4 := Lib.hid n4
  clear n4 z4
  go_wp2_with fail
  refine (lowr_any _ _).mono ?_
  rintro e w' ⟨rfl, rfl⟩
  go_wp2_with fail
  refine (N4.out.next hlm).mono ?_
  rintro e w7 ⟨rfl, n7⟩
  have M7 := n7.mode
  have I7 := n7.cv.cell
  have N7 := Lib.hid n7
  clear n7
  rcases y2 with y2 | y2
  · have p3 : (nxt f.T ((i + 1 + 1 + b) + 1) == 43) = true := by rw [y2]; rfl
    have p4 : (nxt f.T ((i + 1 + 1 + b) + 1) == 45) = false := by rw [y2]; rfl
    clear y2
    go_wp2_with fail
    refine (N7.out.next hls).mono ?_
    rintro e w9 ⟨rfl, n9⟩
    have M9 := n9.mode
    have I9 := n9.cv.cell
    have N9 := Lib.hid n9
    clear n9
    go_wp2_with fail
    refine (N9.out.dig10 c hdc _).mono ?_
    rintro e w8 ⟨rfl, n8⟩
    have M8 := n8.mode
    have I8 := n8.cv.cell
    have N8 := Lib.hid n8
    clear n8
    go_wp2
    refine bodyPost_ret (results_tmp2 rfl _ _ _) rfl ?_
    obtain ⟨f', b1, b2, b3⟩ := N8.out.done hB
    exact ⟨_, f', rfl, .inr rfl, b1, b2, b3⟩
  · have p3 : (nxt f.T ((i + 1 + 1 + b) + 1) == 43) = false := by rw [y2]; rfl
    have p4 : (nxt f.T ((i + 1 + 1 + b) + 1) == 45) = true := by rw [y2]; rfl
    clear y2
    go_wp2_with fail
    refine (N7.out.next hls).mono ?_
    rintro e w9 ⟨rfl, n9⟩
    have M9 := n9.mode
    have I9 := n9.cv.cell
    have N9 := Lib.hid n9
    clear n9
    go_wp2_with fail
    refine (N9.out.dig10 c hdc _).mono ?_
    rintro e w8 ⟨rfl, n8⟩
    have M8 := n8.mode
    have I8 := n8.cv.cell
    have N8 := Lib.hid n8
    clear n8
    go_wp2
    refine bodyPost_ret (results_tmp2 rfl _ _ _) rfl ?_
    obtain ⟨f', b1, b2, b3⟩ := N8.out.done hB
    exact ⟨_, f', rfl, .inr rfl, b1, b2, b3⟩

set_option maxHeartbeats 2000000 in
set_option maxRecDepth 100000 in
theorem sn_H4_no (B P RD : Nat) (f : Flds) (w : World) (tk : Option Nat) (i : Nat) (h : At B P RD tk i f w) (hW : ScW B w) (a : Nat) (ha : 1 ≤ a) (h48 : nxt f.T i ≠ 48) (hd : ND f.T i a) (hdot : nxt f.T (i + a) ≠ 46) (y1 : lowr (nxt f.T (i + a)) ≠ 101) (y2 : lowr (nxt f.T (i + a)) ≠ 112) :
    Calls Tryz.prog 85 #[.pointer (some ⟨P, 0, none⟩), .int .i32 (nxt f.T i), .bool false] w fun en w' => numOut B P RD tk f w (i + a) en w' := by
  have hB := h.s.core.hs
  have N0 := Lib.hid (NS.start h hW)
  have hm : bits .and .u64 28 16 = 16 := by decide
  have ha1 : bits .and .i64 1 1 = 1 := by decide
  have ha2 : bits .and .i64 1 2 = 0 := by decide
  clear h hW
  have q1 : (nxt f.T i == 48) = false := by simpa using h48
  have q5 : (nxt f.T (i + a) == 46) = false := by simpa using hdot
  have hda := dg_pos ha
  have o1 : bits .or .i64 0 1 = 1 := by decide
  clear h48 hdot
  have p1 : (lowr (nxt f.T (i + a)) == 101) = false := by simpa using y1
  have p2 : (lowr (nxt f.T (i + a)) == 112) = false := by simpa using y2
  clear y1 y2
  go_enter Tryz.func85, Tryz.ntmps85
  go_wp2_with fail
  refine (N0.out.dig10 a hd _).mono ?_
  rintro e w1 ⟨rfl, n1⟩
  have M1 := n1.mode
  have I1 := n1.cv.cell
  have N1 := Lib.hid n1
  clear n1
  go_wp2_with fail
  refine (lowr_any _ _).mono ?_
  rintro e w' ⟨rfl, rfl⟩
  go_wp2
  refine bodyPost_ret (results_tmp2 rfl _ _ _) rfl ?_
  obtain ⟨f', b1, b2, b3⟩ := N1.out.done hB
  exact ⟨_, f', rfl, .inl rfl, b1, b2, b3⟩

set_option maxHeartbeats 2000000 in
set_option maxRecDepth 100000 in
theorem sn_H4_plain (B P RD : Nat) (f : Flds) (w : World) (tk : Option Nat) (i : Nat) (h : At B P RD tk i f w) (hW : ScW B w) (a : Nat) (ha : 1 ≤ a) (h48 : nxt f.T i ≠ 48) (hd : ND f.T i a) (hdot : nxt f.T (i + a) ≠ 46) (y1 : lowr (nxt f.T (i + a)) = 101) (y2 : nxt f.T ((i + a) + 1) ≠ 43) (y3 : nxt f.T ((i + a) + 1) ≠ 45) (c : Nat) (hc : 1 ≤ c) (hdc : ND f.T ((i + a) + 1) c) :
    Calls Tryz.prog 85 #[.pointer (some ⟨P, 0, none⟩), .int .i32 (nxt f.T i), .bool false] w fun en w' => numOut B P RD tk f w ((i + a) + 1 + c) en w' := by
  have hB := h.s.core.hs
  have N0 := Lib.hid (NS.start h hW)
  have hm : bits .and .u64 28 16 = 16 := by decide
  have ha1 : bits .and .i64 1 1 = 1 := by decide
  have ha2 : bits .and .i64 1 2 = 0 := by decide
  clear h hW
  have q1 : (nxt f.T i == 48) = false := by simpa using h48
  have q5 : (nxt f.T (i + a) == 46) = false := by simpa using hdot
  have hda := dg_pos ha
  have o1 : bits .or .i64 0 1 = 1 := by decide
  clear h48 hdot
  have hlm : (i + a) < f.T.size := low_lt y1
  have p1 : (lowr (nxt f.T (i + a)) == 101) = true := by rw [y1]; rfl
  have p2 : (lowr (nxt f.T (i + a)) == 112) = false := by rw [y1]; rfl
  have hdc1 := dg_pos hc
  have oc := or_dg c
  clear y1
  have p3 : (nxt f.T ((i + a) + 1) == 43) = false := by simpa using y2
  have p4 : (nxt f.T ((i + a) + 1) == 45) = false := by simpa using y3
  clear y2 y3
  go_enter Tryz.func85, Tryz.ntmps85
  go_wp2_with fail
  refine (N0.out.dig10 a hd _).mono ?_
  rintro e w1 ⟨rfl, n1⟩
  have M1 := n1.mode
  have I1 := n1.cv.cell
  have N1 := Lib.hid n1
  clear n1
  go_wp2_with fail
  refine (lowr_any _ _).mono ?_
  rintro e w' ⟨rfl, rfl⟩
  go_wp2_with fail
  refine (N1.out.next hlm).mono ?_
  rintro e w7 ⟨rfl, n7⟩
  have M7 := n7.mode
  have I7 := n7.cv.cell
  have N7 := Lib.hid n7
  clear n7
  go_wp2_with fail
  refine (N7.out.dig10 c hdc _).mono ?_
  rintro e w8 ⟨rfl, n8⟩
  have M8 := n8.mode
  have I8 := n8.cv.cell
  have N8 := Lib.hid n8
  clear n8
  go_wp2
  refine bodyPost_ret (results_tmp2 rfl _ _ _) rfl ?_
  obtain ⟨f', b1, b2, b3⟩ := N8.out.done hB
  exact ⟨_, f', rfl, .inr rfl, b1, b2, b3⟩

set_option maxHeartbeats 2000000 in
set_option maxRecDepth 100000 in
theorem sn_H4_sign (B P RD : Nat) (f : Flds) (w : World) (tk : Option Nat) (i : Nat) (h : At B P RD tk i f w) (hW : ScW B w) (a : Nat) (ha : 1 ≤ a) (h48 : nxt f.T i ≠ 48) (hd : ND f.T i a) (hdot : nxt f.T (i + a) ≠ 46) (y1 : lowr (nxt f.T (i + a)) = 101) (y2 : nxt f.T ((i + a) + 1) = 43 ∨ nxt f.T ((i + a) + 1) = 45) (c : Nat) (hc : 1 ≤ c) (hdc : ND f.T ((i + a) + 1 + 1) c) :
    Calls Tryz.prog 85 #[.pointer (some ⟨P, 0, none⟩), .int .i32 (nxt f.T i), .bool false] w fun en w' => numOut B P RD tk f w ((i + a) + 1 + 1 + c) en w' := by
  have hB := h.s.core.hs
  have N0 := Lib.hid (NS.start h hW)
  have hm : bits .and .u64 28 16 = 16 := by decide
  have ha1 : bits .and .i64 1 1 = 1 := by decide
  have ha2 : bits .and .i64 1 2 = 0 := by decide
  clear h hW
  have q1 : (nxt f.T i == 48) = false := by simpa using h48
  have q5 : (nxt f.T (i + a) == 46) = false := by simpa using hdot
  have hda := dg_pos ha
  have o1 : bits .or .i64 0 1 = 1 := by decide
  clear h48 hdot
  have hlm : (i + a) < f.T.size := low_lt y1
  have p1 : (lowr (nxt f.T (i + a)) == 101) = true := by rw [y1]; rfl
  have p2 : (lowr (nxt f.T (i + a)) == 112) = false := by rw [y1]; rfl
  have hdc1 := dg_pos hc
  have oc := or_dg c
  clear y1
  have hls : (i + a) + 1 < f.T.size := sg_lt y2
  go_enter Tryz.func85, Tryz.ntmps85
  go_wp2_with fail
  refine (N0.out.dig10 a hd _).mono ?_
  rintro e w1 ⟨rfl, n1⟩
  have M1 := n1.mode
  have I1 := n1.cv.cell
  have N1 := Lib.hid n1
  clear n1
  go_wp2_with fail
  refine (lowr_any _ _).mono ?_
  rintro e w' ⟨rfl, rfl⟩
  go_wp2_with fail
  refine (N1.out.next hlm).mono ?_
  rintro e w7 ⟨rfl, n7⟩
  have M7 := n7.mode
  have I7 := n7.cv.cell
  have N7 := Lib.hid n7
  clear n7
  rcases y2 with y2 | y2
  · have p3 : (nxt f.T ((i + a) + 1) == 43) = true := by rw [y2]; rfl
    have p4 : (nxt f.T ((i + a) + 1) == 45) = false := by rw [y2]; rfl
    clear y2
    go_wp2_with fail
    refine (N7.out.next hls).mono ?_
    rintro e w9 ⟨rfl, n9⟩
    have M9 := n9.mode
    have I9 := n9.cv.cell
    have N9 := Lib.hid n9
    clear n9
    go_wp2_with fail
    refine (N9.out.dig10 c hdc _).mono ?_
    rintro e w8 ⟨rfl, n8⟩
    have M8 := n8.mode
    have I8 := n8.cv.cell
    have N8 := Lib.hid n8
    clear n8
    go_wp2
    refine bodyPost_ret (results_tmp2 rfl _ _ _) rfl ?_
    obtain ⟨f', b1, b2, b3⟩ := N8.out.done hB
    exact ⟨_, f', rfl, .inr rfl, b1, b2, b3⟩
  · have p3 : (nxt f.T ((i + a) + 1) == 43) = false := by rw [y2]; rfl
    have p4 : (nxt f.T ((i + a) + 1) == 45) = true := by rw [y2]; rfl
    clear y2
    go_wp2_with fail
    refine (N7.out.next hls).mono ?_
    rintro e w9 ⟨rfl, n9⟩
    have M9 := n9.mode
    have I9 := n9.cv.cell
    have N9 := Lib.hid n9
    clear n9
    go_wp2_with fail
    refine (N9.out.dig10 c hdc _).mono ?_
    rintro e w8 ⟨rfl, n8⟩
    have M8 := n8.mode
    have I8 := n8.cv.cell
    have N8 := Lib.hid n8
    clear n8
    go_wp2
    refine bodyPost_ret (results_tmp2 rfl _ _ _) rfl ?_
    obtain ⟨f', b1, b2, b3⟩ := N8.out.done hB
    exact ⟨_, f', rfl, .inr rfl, b1, b2, b3⟩

set_option maxHeartbeats 2000000 in
set_option maxRecDepth 100000 in
theorem sn_H5_no (B P RD : Nat) (f : Flds) (w : World) (tk : Option Nat) (i : Nat) (h : At B P RD tk i f w) (hW : ScW B w) (a b : Nat) (ha : 1 ≤ a) (h48 : nxt f.T i ≠ 48) (hd : ND f.T i a) (hdot : nxt f.T (i + a) = 46) (hd2 : ND f.T (i + a + 1) b) (y1 : lowr (nxt f.T (i + a + 1 + b)) ≠ 101) (y2 : lowr (nxt f.T (i + a + 1 + b)) ≠ 112) :
    Calls Tryz.prog 85 #[.pointer (some ⟨P, 0, none⟩), .int .i32 (nxt f.T i), .bool false] w fun en w' => numOut B P RD tk f w (i + a + 1 + b) en w' := by
  have hB := h.s.core.hs
  have N0 := Lib.hid (NS.start h hW)
  have hm : bits .and .u64 28 16 = 16 := by decide
  have ha1 : bits .and .i64 1 1 = 1 := by decide
  have ha2 : bits .and .i64 1 2 = 0 := by decide
  clear h hW
  have hlt2 : i + a < f.T.size := nxt_lt (by rw [hdot]; decide)
  have q1 : (nxt f.T i == 48) = false := by simpa using h48
  have q5 : (nxt f.T (i + a) == 46) = true := by rw [hdot]; rfl
  have hda := dg_pos ha
  have o1 : bits .or .i64 0 1 = 1 := by decide
  have o2 := or_dg b
  clear h48 hdot
  have p1 : (lowr (nxt f.T (i + a + 1 + b)) == 101) = false := by simpa using y1
  have p2 : (lowr (nxt f.T (i + a + 1 + b)) == 112) = false := by simpa using y2
  clear y1 y2
  go_enter Tryz.func85, Tryz.ntmps85
  go_wp2_with fail
  refine (N0.out.dig10 a hd _).mono ?_
  rintro e w1 ⟨rfl, n1⟩
  have M1 := n1.mode
  have I1 := n1.cv.cell
  have N1 := Lib.hid n1
  clear n1
  go_wp2_with fail
  refine (N1.out.next hlt2).mono ?_
  rintro e w2 ⟨rfl, n2⟩
  have M2 := n2.mode
  have I2 := n2.cv.cell
  have N2 := Lib.hid n2
  clear n2
  go_wp2_with fail
  refine (N2.out.dig10 b hd2 _).mono ?_
  rintro e w3 ⟨rfl, n3⟩
  have M3 := n3.mode
  have I3 := n3.cv.cell
  have N3 := Lib.hid n3
  clear n3
  go_wp2_with fail
  refine (lowr_any _ _).mono ?_
  rintro e w' ⟨rfl, rfl⟩
  go_wp2
  refine bodyPost_ret (results_tmp2 rfl _ _ _) rfl ?_
  obtain ⟨f', b1, b2, b3⟩ := N3.out.done hB
  exact ⟨_, f', rfl, .inr rfl, b1, b2, b3⟩

set_option maxHeartbeats 2000000 in
set_option maxRecDepth 100000 in
theorem sn_H5_plain (B P RD : Nat) (f : Flds) (w : World) (tk : Option Nat) (i : Nat) (h : At B P RD tk i f w) (hW : ScW B w) (a b : Nat) (ha : 1 ≤ a) (h48 : nxt f.T i ≠ 48) (hd : ND f.T i a) (hdot : nxt f.T (i + a) = 46) (hd2 : ND f.T (i + a + 1) b) (y1 : lowr (nxt f.T (i + a + 1 + b)) = 101) (y2 : nxt f.T ((i + a + 1 + b) + 1) ≠ 43) (y3 : nxt f.T ((i + a + 1 + b) + 1) ≠ 45) (c : Nat) (hc : 1 ≤ c) (hdc : ND f.T ((i + a + 1 + b) + 1) c) :
    Calls Tryz.prog 85 #[.pointer (some ⟨P, 0, none⟩), .int .i32 (nxt f.T i), .bool false] w fun en w' => numOut B P RD tk f w ((i + a + 1 + b) + 1 + c) en w' := by
  have hB := h.s.core.hs
  have N0 := Lib.hid (NS.start h hW)
  have hm : bits .and .u64 28 16 = 16 := by decide
  have ha1 : bits .and .i64 1 1 = 1 := by decide
  have ha2 : bits .and .i64 1 2 = 0 := by decide
  clear h hW
  have hlt2 : i + a < f.T.size := nxt_lt (by rw [hdot]; decide)
  have q1 : (nxt f.T i == 48) = false := by simpa using h48
  have q5 : (nxt f.T (i + a) == 46) = true := by rw [hdot]; rfl
  have hda := dg_pos ha
  have o1 : bits .or .i64 0 1 = 1 := by decide
  have o2 := or_dg b
  clear h48 hdot
  have hlm : (i + a + 1 + b) < f.T.size := low_lt y1
  have p1 : (lowr (nxt f.T (i + a + 1 + b)) == 101) = true := by rw [y1]; rfl
  have p2 : (lowr (nxt f.T (i + a + 1 + b)) == 112) = false := by rw [y1]; rfl
  have hdc1 := dg_pos hc
  have oc := or_dg c
  clear y1
  have p3 : (nxt f.T ((i + a + 1 + b) + 1) == 43) = false := by simpa using y2
  have p4 : (nxt f.T ((i + a + 1 + b) + 1) == 45) = false := by simpa using y3
  clear y2 y3
  go_enter Tryz.func85, Tryz.ntmps85
  go_wp2_with fail
  refine (N0.out.dig10 a hd _).mono ?_
  rintro e w1 ⟨rfl, n1⟩
  have M1 := n1.mode
  have I1 := n1.cv.cell
  have N1 := Lib.hid n1
  clear n1
  go_wp2_with fail
  refine (N1.out.next hlt2).mono ?_
  rintro e w2 ⟨rfl, n2⟩
  have M2 := n2.mode
  have I2 := n2.cv.cell
  have N2 := Lib.hid n2
  clear n2
  go_wp2_with fail
  refine (N2.out.dig10 b hd2 _).mono ?_
  rintro e w3 ⟨rfl, n3⟩
  have M3 := n3.mode
  have I3 := n3.cv.cell
  have N3 := Lib.hid n3
  clear n3
  go_wp2_with fail
  refine (lowr_any _ _).mono ?_
  rintro e w' ⟨rfl, rfl⟩
  go_wp2_with fail
  refine (N3.out.next hlm).mono ?_
  rintro e w7 ⟨rfl, n7⟩
  have M7 := n7.mode
  have I7 := n7.cv.cell
  have N7 := Lib.hid n7
  clear n7
  go_wp2_with fail
  refine (N7.out.dig10 c hdc _).mono ?_
  rintro e w8 ⟨rfl, n8⟩
  have M8 := n8.mode
  have I8 := n8.cv.cell
  have N8 := Lib.hid n8
  clear n8
  go_wp2
  refine bodyPost_ret (results_tmp2 rfl _ _ _) rfl ?_
  obtain ⟨f', b1, b2, b3⟩ := N8.out.done hB
  exact ⟨_, f', rfl, .inr rfl, b1, b2, b3⟩

set_option maxHeartbeats 2000000 in
set_option maxRecDepth 100000 in
theorem sn_H5_sign (B P RD : Nat) (f : Flds) (w : World) (tk : Option Nat) (i : Nat) (h : At B P RD tk i f w) (hW : ScW B w) (a b : Nat) (ha : 1 ≤ a) (h48 : nxt f.T i ≠ 48) (hd : ND f.T i a) (hdot : nxt f.T (i + a) = 46) (hd2 : ND f.T (i + a + 1) b) (y1 : lowr (nxt f.T (i + a + 1 + b)) = 101) (y2 : nxt f.T ((i + a + 1 + b) + 1) = 43 ∨ nxt f.T ((i + a + 1 + b) + 1) = 45) (c : Nat) (hc : 1 ≤ c) (hdc : ND f.T ((i + a + 1 + b) + 1 + 1) c) :
    Calls Tryz.prog 85 #[.pointer (some ⟨P, 0, none⟩), .int .i32 (nxt f.T i), .bool false] w fun en w' => numOut B P RD tk f w ((i + a + 1 + b) + 1 + 1 + c) en w' := by
  have hB := h.s.core.hs
  have N0 := Lib.hid (NS.start h hW)
  have hm : bits .and .u64 28 16 = 16 := by decide
  have ha1 : bits .and .i64 1 1 = 1 := by decide
  have ha2 : bits .and .i64 1 2 = 0 := by decide
  clear h hW
  have hlt2 : i + a < f.T.size := nxt_lt (by rw [hdot]; decide)
  have q1 : (nxt f.T i == 48) = false := by simpa using h48
  have q5 : (nxt f.T (i + a) == 46) = true := by rw [hdot]; rfl
  have hda := dg_pos ha
  have o1 : bits .or .i64 0 1 = 1 := by decide
  have o2 := or_dg b
  clear h48 hdot
  have hlm : (i + a + 1 + b) < f.T.size := low_lt y1
  have p1 : (lowr (nxt f.T (i + a + 1 + b)) == 101) = true := by rw [y1]; rfl
  have p2 : (lowr (nxt f.T (i + a + 1 + b)) == 112) = false := by rw [y1]; rfl
  have hdc1 := dg_pos hc
  have oc := or_dg c
  clear y1
  have hls : (i + a + 1 + b) + 1 < f.T.size := sg_lt y2
  go_enter Tryz.func85, Tryz.ntmps85
  go_wp2_with fail
  refine (N0.out.dig10 a hd _).mono ?_
  rintro e w1 ⟨rfl, n1⟩
  have M1 := n1.mode
  have I1 := n1.cv.cell
  have N1 := Lib.hid n1
  clear n1
  go_wp2_with fail
  refine (N1.out.next hlt2).mono ?_
  rintro e w2 ⟨rfl, n2⟩
  have M2 := n2.mode
  have I2 := n2.cv.cell
  have N2 := Lib.hid n2
  clear n2
  go_wp2_with fail
  refine (N2.out.dig10 b hd2 _).mono ?_
  rintro e w3 ⟨rfl, n3⟩
  have M3 := n3.mode
  have I3 := n3.cv.cell
  have N3 := Lib.hid n3
  clear n3
  go_wp2_with fail
  refine (lowr_any _ _).mono ?_
  rintro e w' ⟨rfl, rfl⟩
  go_wp2_with fail
  refine (N3.out.next hlm).mono ?_
  rintro e w7 ⟨rfl, n7⟩
  have M7 := n7.mode
  have I7 := n7.cv.cell
  have N7 := Lib.hid n7
  clear n7
  rcases y2 with y2 | y2
  · have p3 : (nxt f.T ((i + a + 1 + b) + 1) == 43) = true := by rw [y2]; rfl
    have p4 : (nxt f.T ((i + a + 1 + b) + 1) == 45) = false := by rw [y2]; rfl
    clear y2
    go_wp2_with fail
    refine (N7.out.next hls).mono ?_
    rintro e w9 ⟨rfl, n9⟩
    have M9 := n9.mode
    have I9 := n9.cv.cell
    have N9 := Lib.hid n9
    clear n9
    go_wp2_with fail
    refine (N9.out.dig10 c hdc _).mono ?_
    rintro e w8 ⟨rfl, n8⟩
    have M8 := n8.mode
    have I8 := n8.cv.cell
    have N8 := Lib.hid n8
    clear n8
    go_wp2
    refine bodyPost_ret (results_tmp2 rfl _ _ _) rfl ?_
    obtain ⟨f', b1, b2, b3⟩ := N8.out.done hB
    exact ⟨_, f', rfl, .inr rfl, b1, b2, b3⟩
  · have p3 : (nxt f.T ((i + a + 1 + b) + 1) == 43) = false := by rw [y2]; rfl
    have p4 : (nxt f.T ((i + a + 1 + b) + 1) == 45) = true := by rw [y2]; rfl
    clear y2
    go_wp2_with fail
    refine (N7.out.next hls).mono ?_
    rintro e w9 ⟨rfl, n9⟩
    have M9 := n9.mode
    have I9 := n9.cv.cell
    have N9 := Lib.hid n9
    clear n9
    go_wp2_with fail
    refine (N9.out.dig10 c hdc _).mono ?_
    rintro e w8 ⟨rfl, n8⟩
    have M8 := n8.mode
    have I8 := n8.cv.cell
    have N8 := Lib.hid n8
    clear n8
    go_wp2
    refine bodyPost_ret (results_tmp2 rfl _ _ _) rfl ?_
    obtain ⟨f', b1, b2, b3⟩ := N8.out.done hB
    exact ⟨_, f', rfl, .inr rfl, b1, b2, b3⟩

end Go.Proofs.YthfjakbpeclfcaaGreatDoor
