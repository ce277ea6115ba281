/-
  What the row's listed variables hold, as the walks ask it.
-/
import Derived.Test.YthfjakbpeclfcaaGreatDoorNl
import Derived.Test.YthfjakbpeclfcaaGreatDoorRows
import Derived.LaidMore
import Derived.OpenShut
import Derived.Lib.LaidU8
import Derived.Stop.LaidErr
namespace Go.Proofs.YthfjakbpeclfcaaGreatDoor
open Go.RowKit Go Go.ChangeShapes

section
variable {w : World}

theorem vr {n : String} {d : DataW Unit} {g t : Nat} (h : Lib.VarReads Tryz.prog w n d) (hg : Tryz.prog.globalNamed n = some g) (ht : (Tryz.prog.globals[g]?).map (·.type) = some t) :
    ∃ (cs : List Value) (fuel : Nat) (p : List MemPlace), (∀ i, w.cell? ⟨g, i, none⟩ = cs[i]?) ∧ DataW.trod (fun _ => ()) Tryz.prog w 0 (fun _ => true) false fuel t cs = some (d, p) := by
  obtain ⟨g', t', cs, fuel, p, hg', ht', hv, hd⟩ := h
  obtain rfl := Option.some.inj (hg.symm.trans hg')
  obtain rfl := Option.some.inj (ht.symm.trans ht')
  exact ⟨cs.toList, fuel, p, fun i => by rw [World.var?_cell hg hv i, Array.getElem?_toList], hd⟩

theorem take1 {l : List Value} {o : Nat} {v : Value} (h : (l.drop o).take 1 = [v]) : l[o]? = some v := by
  have := congrArg (·[0]?) h
  simpa [List.getElem?_take, List.getElem?_drop] using this

/-- One field of a struct. -/
theorem fld {t : TypeId} {fs : Array Field} {cs : List Value} {ds : List (DataW Unit)} {fuel : Nat} {p : List MemPlace} (ht : Tryz.prog.underlying t = some (.struct fs))
    (h : DataW.trod (fun _ => ()) Tryz.prog w 0 (fun _ => true) false fuel t cs = some (.agg ds, p)) (i : Nat) {f : Field} (hf : fs[i]? = some f) (hc : Tryz.prog.cellsOf f.type = 1) {d : DataW Unit} (hd : ds[i]? = some d) :
    ∃ n q, DataW.trod (fun _ => ()) Tryz.prog w 0 (fun _ => true) false n f.type ((cs.drop f.offset).take 1) = some (d, q) := by
  obtain ⟨xs, n, rfl, hx, _, _, hall⟩ := DataW.trod_struct ht h
  have e : ds = xs.map (·.1) := by
    have := congrArg Prod.fst hx
    simpa using this
  rw [e, List.getElem?_map] at hd
  obtain ⟨y, hy, rfl⟩ := Option.map_eq_some_iff.1 hd
  refine ⟨n, y.2, ?_⟩
  have := hall i f hf
  rw [hc, hy] at this
  exact this

noncomputable def fdB (t i ty off : Nat) : Bool := match Tryz.prog.underlying t with
  | some (.struct fs) => (match fs[i]? with
    | some f => f.type == ty && f.offset == off
    | none => false)
  | _ => false
theorem fldB {t i ty off : Nat} {cs : List Value} {ds : List (DataW Unit)} {fuel : Nat} {p : List MemPlace} (hB : fdB t i ty off = true)
    (h : DataW.trod (fun _ => ()) Tryz.prog w 0 (fun _ => true) false fuel t cs = some (.agg ds, p)) (hc : Tryz.prog.cellsOf ty = 1) {d : DataW Unit} (hd : ds[i]? = some d) :
    ∃ n q, DataW.trod (fun _ => ()) Tryz.prog w 0 (fun _ => true) false n ty ((cs.drop off).take 1) = some (d, q) := by
  unfold fdB at hB
  split at hB
  · rename_i fs hu
    split at hB
    · rename_i f hf
      simp only [Bool.and_eq_true, beq_iff_eq] at hB
      obtain ⟨e1, e2⟩ := hB
      rw [← e1, ← e2]
      exact fld hu h i hf (by rw [e1]; exact hc) hd
    · cases hB
  · cases hB

theorem trod_flt {t : TypeId} {k : FloatKind} {cs : List Value} {fuel : Nat} {x : DataW Unit × List MemPlace} (ht : Tryz.prog.underlying t = some (.float k))
    (h : DataW.trod (fun _ => ()) Tryz.prog w 0 (fun _ => true) false fuel t cs = some x) : ∃ b, cs = [.float k b] ∧ x = (.lit (.float k b), []) := by
  cases fuel with
  | zero => simp [DataW.trod] at h
  | succ n =>
    unfold DataW.trod at h
    rw [ht] at h
    split at h <;> simp_all

/-- A slice, element by element. -/
theorem slc {t e : TypeId} {m : Nat} {cs : List Value} {ds : List (DataW Unit)} {fuel : Nat} {p : List MemPlace} (ht : Tryz.prog.underlying t = some (.slice e)) (hc : Tryz.prog.cellsOf e = m)
    (h : DataW.trod (fun _ => ()) Tryz.prog w 0 (fun _ => true) false fuel t cs = some (.slice ds [], p)) :
    ∃ (a : Addr) (cap : Nat), cs = [.slice (some a) ds.length cap] ∧
      ∀ (i : Nat) (d : DataW Unit), ds[i]? = some d → ∃ ce n q, w.cells? 0 (a.add (i * m)) m = some ce ∧ DataW.trod (fun _ => ()) Tryz.prog w 0 (fun _ => true) false n e ce = some (d, q) := by
  rcases DataW.trod_slice ht h with ⟨_, hx⟩ | ⟨a, len, cap, elems, rest, n, _, hcs, hx, _, _, _, hlen, hel, _⟩
  · simp at hx
  · simp only [Prod.mk.injEq, DataW.slice.injEq] at hx
    obtain ⟨⟨rfl, _⟩, _⟩ := hx
    refine ⟨a, cap, by rw [hcs]; simp [hlen], fun i d hd => ?_⟩
    rw [List.getElem?_map] at hd
    obtain ⟨y, hy, rfl⟩ := Option.map_eq_some_iff.1 hd
    have hi : i < len := by rw [← hlen]; exact (List.getElem?_eq_some_iff.1 hy).1
    have hE := hel i hi
    rw [hc, hy] at hE
    obtain ⟨ce, h1, h2⟩ := Option.bind_eq_some_iff.1 hE
    exact ⟨ce, n, y.2, h1, h2⟩

theorem plainA {a : Addr} {v : Value} (h : w.cell? a = some v) : ∃ b o, a = ⟨b, o, none⟩ ∧ b < w.heap.size := by
  obtain ⟨b, o, sp⟩ := a
  obtain rfl := cell_spot h
  exact ⟨b, o, rfl, World.block_lt_of_cell? w _ h⟩
theorem zeroA (a : Addr) : a.add 0 = a := rfl

/-- A slice whose elements are of one cell each. -/
theorem slc1 {t e : TypeId} {cs : List Value} {ds : List (DataW Unit)} {fuel : Nat} {p : List MemPlace} (ht : Tryz.prog.underlying t = some (.slice e)) (hc : Tryz.prog.cellsOf e = 1) (h0 : 0 < ds.length)
    (h : DataW.trod (fun _ => ()) Tryz.prog w 0 (fun _ => true) false fuel t cs = some (.slice ds [], p)) :
    ∃ (b o cap : Nat), b < w.heap.size ∧ cs = [.slice (some ⟨b, o, none⟩) ds.length cap] ∧
      ∀ (i : Nat) (d : DataW Unit), ds[i]? = some d → ∃ v n q, w.cell? ⟨b, o + i, none⟩ = some v ∧ DataW.trod (fun _ => ()) Tryz.prog w 0 (fun _ => true) false n e [v] = some (d, q) := by
  obtain ⟨a, cap, hcs, hel⟩ := slc ht hc h
  obtain ⟨b, o, rfl, hb⟩ : ∃ b o, a = ⟨b, o, none⟩ ∧ b < w.heap.size := by
    obtain ⟨ce, n, q, h1, _⟩ := hel 0 _ (List.getElem?_eq_getElem h0)
    obtain ⟨_, hl, hx⟩ := World.cells?_some h1
    have := hx 0 (by omega)
    rw [Nat.zero_mul, zeroA, zeroA, List.getElem?_eq_getElem (by omega)] at this
    exact plainA this
  refine ⟨b, o, cap, hb, hcs, fun i d hd => ?_⟩
  obtain ⟨ce, n, q, h1, h2⟩ := hel i d hd
  obtain ⟨_, hl, hx⟩ := World.cells?_some h1
  obtain ⟨v, rfl⟩ : ∃ v, ce = [v] := by
    match ce, hl with
    | [v], _ => exact ⟨v, rfl⟩
  have := hx 0 (by omega)
  rw [Nat.mul_one, Addr.add_lit, zeroA] at this
  exact ⟨v, n, q, this, h2⟩

/-- A slice whose elements are of two cells each. -/
theorem slc2 {t e : TypeId} {cs : List Value} {ds : List (DataW Unit)} {fuel : Nat} {p : List MemPlace} (ht : Tryz.prog.underlying t = some (.slice e)) (hc : Tryz.prog.cellsOf e = 2) (h0 : 0 < ds.length)
    (h : DataW.trod (fun _ => ()) Tryz.prog w 0 (fun _ => true) false fuel t cs = some (.slice ds [], p)) :
    ∃ (b o cap : Nat), b < w.heap.size ∧ cs = [.slice (some ⟨b, o, none⟩) ds.length cap] ∧
      ∀ (i : Nat) (d : DataW Unit), ds[i]? = some d → ∃ u v n q, w.cell? ⟨b, o + i * 2, none⟩ = some u ∧ w.cell? ⟨b, o + i * 2 + 1, none⟩ = some v ∧ DataW.trod (fun _ => ()) Tryz.prog w 0 (fun _ => true) false n e [u, v] = some (d, q) := by
  obtain ⟨a, cap, hcs, hel⟩ := slc ht hc h
  obtain ⟨b, o, rfl, hb⟩ : ∃ b o, a = ⟨b, o, none⟩ ∧ b < w.heap.size := by
    obtain ⟨ce, n, q, h1, _⟩ := hel 0 _ (List.getElem?_eq_getElem h0)
    obtain ⟨_, hl, hx⟩ := World.cells?_some h1
    have := hx 0 (by omega)
    rw [Nat.zero_mul, zeroA, zeroA, List.getElem?_eq_getElem (by omega)] at this
    exact plainA this
  refine ⟨b, o, cap, hb, hcs, fun i d hd => ?_⟩
  obtain ⟨ce, n, q, h1, h2⟩ := hel i d hd
  obtain ⟨_, hl, hx⟩ := World.cells?_some h1
  obtain ⟨u, v, rfl⟩ : ∃ u v, ce = [u, v] := by
    match ce, hl with
    | [u, v], _ => exact ⟨u, v, rfl⟩
  have x0 := hx 0 (by omega)
  have x1 := hx 1 (by omega)
  rw [Addr.add_lit, zeroA] at x0
  rw [Addr.add_lit, Addr.add_lit] at x1
  exact ⟨u, v, n, q, x0, x1, h2⟩
end

theorem u184 : Tryz.prog.underlying 184 = some (.array 256 5) := by kernel_rfl
theorem u241 : Tryz.prog.underlying 241 = some (.array 696 240) := by kernel_rfl
theorem u235 : Tryz.prog.underlying 235 = some (.slice 3) := by kernel_rfl
theorem u30 : Tryz.prog.underlying 30 = some (.slice 79) := by kernel_rfl
theorem u252 : Tryz.prog.underlying 252 = some (.slice 251) := by kernel_rfl
theorem u79 : Tryz.prog.underlying 79 = some (.float .f64) := by kernel_rfl
theorem cells5 : Tryz.prog.cellsOf 5 = 1 := by kernel_rfl
theorem cells184 : Tryz.prog.cellsOf 184 = 256 := by kernel_rfl
theorem cells3 : Tryz.prog.cellsOf 3 = 1 := by kernel_rfl
theorem cells9 : Tryz.prog.cellsOf 9 = 1 := by kernel_rfl
theorem cells79 : Tryz.prog.cellsOf 79 = 1 := by kernel_rfl
theorem cells240 : Tryz.prog.cellsOf 240 = 2 := by kernel_rfl
theorem cells251 : Tryz.prog.cellsOf 251 = 2 := by kernel_rfl
theorem cells217 : Tryz.prog.cellsOf 217 = 1 := by kernel_rfl

theorem utf8_low (x : Nat) (hx : x < 128) : Lib.firstTab[x]? = some 240 := by
  have h : ((List.range 128).all fun x => Lib.firstTab[x]? == some 240) = true := by kernel_rfl
  simpa using List.all_eq_true.1 h x (List.mem_range.2 hx)

theorem first_of {w : World} (h : Lib.VarReads Tryz.prog w "unicode/utf8.first" Go.Pinned.utf8First) : ∀ x, x < 128 → w.cell? ⟨5, x, none⟩ = some (.int .u8 240) := by
  obtain ⟨cs, fuel, p, hc, hd⟩ := vr h (g := 5) (t := 184) (by kernel_rfl) (by kernel_rfl)
  have e : Go.Pinned.utf8First = Lib.tabData .u8 Lib.firstTab := by kernel_rfl
  rw [e] at hd
  have hcs := Lib.cells_of_tab u184 Tryz.underlying5 cells5 cells184 hd
  intro x hx
  rw [hc, hcs, List.getElem?_map, utf8_low x hx]
  rfl

theorem opt_of {w : World} (h : Lib.VarReads Tryz.prog w "internal/strconv.optimize" (.lit (.bool true))) : w.cell? ⟨9, 0, none⟩ = some (.bool true) := by
  obtain ⟨cs, fuel, p, hc, hd⟩ := vr h (g := 9) (t := 4) (by kernel_rfl) (by kernel_rfl)
  obtain ⟨b, rfl, e⟩ := DataW.trod_bool Tryz.underlying4 hd
  simp only [Prod.mk.injEq, DataW.lit.injEq, Lit.bool.injEq] at e
  rw [hc, ← e.1]
  rfl

theorem info_of {w : World} (h : Lib.VarReads Tryz.prog w "internal/strconv.float64info" (.agg [.lit (.int .u64 52), .lit (.int .u64 11), .lit (.int .i64 (-1023))])) :
    w.cell? ⟨10, 0, none⟩ = some (.int .u64 52) ∧ w.cell? ⟨10, 1, none⟩ = some (.int .u64 11) ∧ w.cell? ⟨10, 2, none⟩ = some (.int .i64 (-1023)) := by
  obtain ⟨cs, fuel, p, hc, hd⟩ := vr h (g := 10) (t := 198) (by kernel_rfl) (by kernel_rfl)
  have c91 : Tryz.prog.cellsOf 91 = 1 := by kernel_rfl
  obtain ⟨n0, q0, h0⟩ := fldB (i := 0) (ty := 91) (off := 0) (by kernel_rfl) hd c91 rfl
  obtain ⟨n1, q1, h1⟩ := fldB (i := 1) (ty := 91) (off := 1) (by kernel_rfl) hd c91 rfl
  obtain ⟨n2, q2, h2⟩ := fldB (i := 2) (ty := 3) (off := 2) (by kernel_rfl) hd cells3 rfl
  obtain ⟨z0, y0, x0, _⟩ := DataW.trod_int Tryz.underlying91 h0
  obtain ⟨z1, y1, x1, _⟩ := DataW.trod_int Tryz.underlying91 h1
  obtain ⟨z2, y2, x2, _⟩ := DataW.trod_int Tryz.underlying3 h2
  simp only [Prod.mk.injEq, DataW.lit.injEq, Lit.int.injEq, true_and] at x0 x1 x2
  rw [hc, hc, hc, take1 y0, take1 y1, take1 y2, ← x0.1, ← x1.1, ← x2.1]
  exact ⟨rfl, rfl, rfl⟩

theorem pwt_of {w : World} (h : Lib.VarReads Tryz.prog w "internal/strconv.powtab" (.slice (pw.map fun (z : Nat) => .lit (.int .i64 z)) [])) :
    ∃ lb lo lc : Nat, lb < w.heap.size ∧ w.cell? ⟨12, 0, none⟩ = some (.slice (some ⟨lb, lo, none⟩) 9 lc) ∧ ∀ k, k < 9 → w.cell? ⟨lb, lo + k, none⟩ = some (.int .i64 (pw.getD k 1 : Nat)) := by
  obtain ⟨cs, fuel, p, hc, hd⟩ := vr h (g := 12) (t := 235) (by kernel_rfl) (by kernel_rfl)
  obtain ⟨b, o, cap, hb, rfl, hel⟩ := slc1 u235 cells3 (by decide) hd
  refine ⟨b, o, cap, hb, by rw [hc]; rfl, fun k hk => ?_⟩
  have hk' : k < pw.length := hk
  obtain ⟨v, n, q, h1, h2⟩ := hel k _ (by rw [List.getElem?_map, List.getElem?_eq_getElem hk']; rfl)
  obtain ⟨z, y, x, _⟩ := DataW.trod_int Tryz.underlying3 h2
  simp only [Prod.mk.injEq, DataW.lit.injEq, Lit.int.injEq, true_and] at x
  rw [h1, List.getD, List.getElem?_eq_getElem hk']
  cases y
  rw [← x.1]
  rfl

theorem ten_of {w : World} (h : Lib.VarReads Tryz.prog w "internal/strconv.float64pow10" (.slice (tens.map fun (z : Nat) => .lit (.float .f64 z)) [])) :
    ∃ lb lo lc : Nat, lb < w.heap.size ∧ w.cell? ⟨13, 0, none⟩ = some (.slice (some ⟨lb, lo, none⟩) 23 lc) ∧ ∀ k, k < 23 → w.cell? ⟨lb, lo + k, none⟩ = some (.float .f64 (ten k)) := by
  obtain ⟨cs, fuel, p, hc, hd⟩ := vr h (g := 13) (t := 30) (by kernel_rfl) (by kernel_rfl)
  obtain ⟨b, o, cap, hb, rfl, hel⟩ := slc1 u30 cells79 (by decide) hd
  refine ⟨b, o, cap, hb, by rw [hc]; rfl, fun k hk => ?_⟩
  have hk' : k < tens.length := hk
  obtain ⟨v, n, q, h1, h2⟩ := hel k _ (by rw [List.getElem?_map, List.getElem?_eq_getElem hk']; rfl)
  obtain ⟨z, y, x⟩ := trod_flt u79 h2
  simp only [Prod.mk.injEq, DataW.lit.injEq, Lit.float.injEq, true_and] at x
  rw [h1, ten, List.getD, List.getElem?_eq_getElem hk']
  cases y
  rw [← x.1]
  rfl

theorem pow_of {w : World} (h : Lib.VarReads Tryz.prog w "internal/strconv.pow10Tab" Go.Pinned.pow10Tab) :
    ∀ i, i < 696 → w.cell? ⟨14, i * 2, none⟩ = some (.int .u64 (p10h i)) ∧ w.cell? ⟨14, i * 2 + 1, none⟩ = some (.int .u64 (p10l i)) := by
  obtain ⟨cs, fuel, p, hc, hd⟩ := vr h (g := 14) (t := 241) (by kernel_rfl) (by kernel_rfl)
  intro i hi
  unfold Go.Pinned.pow10Tab at hd
  obtain ⟨fuel', d, q, hdi, he⟩ := Lib.array_elem u241 hd i hi
  have hlen : Go.Pinned.pow10Rows.length = 696 := by kernel_rfl
  have hi' : i < Go.Pinned.pow10Rows.length := by omega
  rw [List.getElem?_map, List.getElem?_eq_getElem hi'] at hdi
  simp only [Option.map_some, Option.some.injEq] at hdi
  subst hdi
  rw [cells240] at he
  have c80 : Tryz.prog.cellsOf 80 = 1 := by kernel_rfl
  obtain ⟨n0, q0, h0⟩ := fldB (i := 0) (ty := 80) (off := 0) (by kernel_rfl) he c80 rfl
  obtain ⟨n1, q1, h1⟩ := fldB (i := 1) (ty := 80) (off := 1) (by kernel_rfl) he c80 rfl
  obtain ⟨z0, y0, x0, _⟩ := DataW.trod_int Tryz.underlying80 h0
  obtain ⟨z1, y1, x1, _⟩ := DataW.trod_int Tryz.underlying80 h1
  simp only [Prod.mk.injEq, DataW.lit.injEq, Lit.int.injEq, true_and] at x0 x1
  have t0 := take1 y0
  have t1 := take1 y1
  rw [List.getElem?_take, List.getElem?_drop, if_pos (by omega)] at t0 t1
  rw [hc, hc, show i * 2 = i * 2 + 0 from rfl, t0, t1, ← x0.1, ← x1.1, p10h, p10l, List.getD, List.getElem?_eq_getElem hi']
  exact ⟨rfl, rfl⟩

theorem cht_of {w : World} (h : Lib.VarReads Tryz.prog w "internal/strconv.leftcheats" Go.Pinned.leftcheats) :
    ∃ lb lo lc : Nat, lb < w.heap.size ∧ w.cell? ⟨15, 0, none⟩ = some (.slice (some ⟨lb, lo, none⟩) 61 lc) ∧
      ∀ k, k < 61 → w.cell? ⟨lb, lo + k * 2, none⟩ = some (.int .i64 (chD k)) ∧ w.cell? ⟨lb, lo + k * 2 + 1, none⟩ = some (.string ⟨(chS k).toArray⟩) := by
  obtain ⟨cs, fuel, p, hc, hd⟩ := vr h (g := 15) (t := 252) (by kernel_rfl) (by kernel_rfl)
  unfold Go.Pinned.leftcheats at hd
  have hlen : Go.Pinned.cheatRows.length = 61 := by kernel_rfl
  obtain ⟨b, o, cap, hb, rfl, hel⟩ := slc2 u252 cells251 (by rw [List.length_map, hlen]; omega) hd
  refine ⟨b, o, cap, hb, by rw [hc, List.length_map, hlen]; rfl, fun k hk => ?_⟩
  have hk' : k < Go.Pinned.cheatRows.length := by omega
  obtain ⟨u, v, n, q, h1, h2, h3⟩ := hel k _ (by rw [List.getElem?_map, List.getElem?_eq_getElem hk']; rfl)
  obtain ⟨n0, q0, x0⟩ := fldB (i := 0) (ty := 3) (off := 0) (by kernel_rfl) h3 cells3 rfl
  obtain ⟨n1, q1, x1⟩ := fldB (i := 1) (ty := 9) (off := 1) (by kernel_rfl) h3 cells9 rfl
  obtain ⟨z0, y0, d0, _⟩ := DataW.trod_int Tryz.underlying3 x0
  obtain ⟨s1, y1, d1, _⟩ := DataW.trod_string Tryz.underlying9 x1
  simp only [Prod.mk.injEq, DataW.lit.injEq, Lit.int.injEq, Lit.string.injEq, true_and] at d0 d1
  cases y0
  cases y1
  rw [h1, h2, chD, chS, List.getD, List.getElem?_eq_getElem hk', ← d0.1]
  refine ⟨rfl, ?_⟩
  show some (Value.string s1) = some (.string ⟨(Go.Pinned.cheatRows[k].2).toArray⟩)
  rw [d1.1]

theorem ueof_of {w : World} (h : Lib.VarReads Tryz.prog w "pub-alidade/pub/simplefeatures/geom.wktUnexpectedEOF" (.agg [.lit (.string [117, 110, 101, 120, 112, 101, 99, 116, 101, 100, 32, 69, 79, 70])])) :
    w.cell? ⟨1, 0, none⟩ = some (.string ⟨#[117, 110, 101, 120, 112, 101, 99, 116, 101, 100, 32, 69, 79, 70]⟩) := by
  obtain ⟨cs, fuel, p, hc, hd⟩ := vr h (g := 1) (t := 145) (by kernel_rfl) (by kernel_rfl)
  obtain ⟨n0, q0, x0⟩ := fldB (i := 0) (ty := 9) (off := 0) (by kernel_rfl) hd cells9 rfl
  obtain ⟨s, y, d, _⟩ := DataW.trod_string Tryz.underlying9 x0
  simp only [Prod.mk.injEq, DataW.lit.injEq, Lit.string.injEq] at d
  rw [hc, take1 y]
  have : s = ⟨#[117, 110, 101, 120, 112, 101, 99, 116, 101, 100, 32, 69, 79, 70]⟩ := by
    obtain ⟨⟨l⟩⟩ := s
    have e := d.1
    simp only at e
    rw [← e]
  rw [this]

theorem star : "*" ++ "errors.errorString" = "*errors.errorString" := by decide
theorem only215 (u : TypeId) (h : Tryz.prog.typeName? 3 u = some "*errors.errorString") : u = 215 :=
  typeName_ptr_named (nm := "errors.errorString") (by rw [star]; kernel_rfl) (by kernel_rfl) (by decide) u (by rw [star]; exact h)

theorem sent_of {w : World} {n : String} {text : List UInt8} {r : List (String × DataW Unit)} {g : Nat}
    (h : laidMet Tryz.prog ((n, .iface "*errors.errorString" (.ptr (.agg [.lit (.string text)]))) :: r) w)
    (hg : Tryz.prog.globalNamed n = some g) (ht : (Tryz.prog.globals[g]?).map (·.type) = some 43) :
    ∃ (a o : Nat) (s : ByteArray), a < w.heap.size ∧ w.cell? ⟨g, 0, none⟩ = some (.iface 215 (.pointer (some ⟨a, o, none⟩))) ∧ w.cell? ⟨a, o, none⟩ = some (.string s) ∧ s.data.toList = text := by
  obtain ⟨a, s, h1, h2, h3, _⟩ := laid_sentinel h hg ht Tryz.underlying43 only215 Tryz.underlying215 Tryz.underlying217 rfl rfl Tryz.underlying9 cells217 cells9
  obtain ⟨b, o, rfl, hb⟩ := plainA h2
  refine ⟨b, o, s, hb, ?_, h2, h3⟩
  rw [World.var?_cell hg h1 0]
  rfl

section
variable {w : World}
theorem lx_of (h : laidMet Tryz.prog Rows.fnPolygonBodyRow.laid w) : LxW w.heap.size w ∧ NumP w.heap.size w := by
  have r : ∀ i n d, Rows.fnPolygonBodyRow.laid[i]? = some (n, d) → Lib.VarReads Tryz.prog w n d := fun i n d e => Lib.laidMet.reads h (List.mem_of_getElem? e)
  have hs : 19 ≤ w.heap.size := by
    obtain ⟨cs, fuel, p, hc, hd⟩ := vr (r 1 "math/bits.deBruijn64tab" Rows.laid_math_bits_deBruijn64tab rfl) (g := 18) (t := 260) (by kernel_rfl) (by kernel_rfl)
    have hl : cs ≠ [] := by
      rintro rfl
      obtain ⟨xs, m, _, hx, hl, _⟩ := DataW.trod_array (n := 64) (e := 5) (by kernel_rfl) hd
      have : Tryz.prog.cellsOf 260 = 64 := by kernel_rfl
      rw [this] at hl
      simp at hl
    obtain ⟨v, l, rfl⟩ := List.exists_cons_of_ne_nil hl
    exact World.block_lt_of_cell? w _ (hc 0)
  have t10 := h.tail.tail.tail.tail.tail.tail.tail.tail.tail.tail
  obtain ⟨a1, o1, s1, k1, k2, k3, k4⟩ := sent_of (n := "strconv.ErrRange") (g := 4) t10 (by kernel_rfl) (by kernel_rfl)
  obtain ⟨a2, o2, s2, l1, l2, l3, l4⟩ := sent_of (n := "strconv.ErrSyntax") (g := 3) t10.tail (by kernel_rfl) (by kernel_rfl)
  obtain ⟨a3, o3, s3, m1, m2, m3, m4⟩ := sent_of (n := "io.EOF") (g := 2) t10.tail.tail (by kernel_rfl) (by kernel_rfl)
  have z1 : s1.size ≤ 1000 := by
    have : s1.data.toList.length = 18 := by rw [k4]; rfl
    rw [Array.length_toList] at this
    show s1.data.size ≤ 1000
    omega
  have z2 : s2.size ≤ 1000 := by
    have : s2.data.toList.length = 14 := by rw [l4]; rfl
    rw [Array.length_toList] at this
    show s2.data.size ≤ 1000
    omega
  obtain ⟨i0, i1, i2⟩ := info_of (r 3 _ _ rfl)
  exact ⟨⟨⟨hs, first_of (r 17 _ _ rfl), ⟨_, m2⟩⟩, ueof_of (r 14 _ _ rfl)⟩,
    ⟨hs, Nat.le_refl _, opt_of (r 4 _ _ rfl), i0, i1, i2, pwt_of (r 5 _ _ rfl), ten_of (r 6 _ _ rfl), pow_of (r 16 _ _ rfl), cht_of (r 15 _ _ rfl)⟩,
    ⟨hs, ⟨a2, o2, s2, l1, l2, l3, z2⟩, ⟨a1, o1, s1, k1, k2, k3, z1⟩⟩⟩
end
end Go.Proofs.YthfjakbpeclfcaaGreatDoor
