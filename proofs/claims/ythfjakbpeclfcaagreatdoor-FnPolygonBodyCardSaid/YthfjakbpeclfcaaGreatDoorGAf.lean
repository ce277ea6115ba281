/-
  Plain laws: what atof64 yields for a decimal of the grammar, apart from its sign.
  What the library's number functions read of the package's variables, and that it stays.
  The library's atof64 on a decimal of the grammar.
-/
import Derived.Test.YthfjakbpeclfcaaGreatDoorPk
import Derived.Test.YthfjakbpeclfcaaGreatDoorGFl
import Derived.Test.YthfjakbpeclfcaaGreatDoorAe
import Derived.Test.YthfjakbpeclfcaaGreatDoorDs
import Derived.Test.YthfjakbpeclfcaaGreatDoorGFb
import Derived.Test.YthfjakbpeclfcaaGreatDoorSp
namespace Go.Proofs.YthfjakbpeclfcaaGreatDoor
open Go.RowKit Go

theorem rs_bound : ∀ (M : List UInt8) (d : Bool) (s : RS), okM d M → 0 ≤ s.m ∧ s.m < 10 ^ s.nm ∧ s.nm ≤ 19 →
    0 ≤ (M.foldl rStep s).m ∧ (M.foldl rStep s).m < 10 ^ (M.foldl rStep s).nm ∧ (M.foldl rStep s).nm ≤ 19
  | [], _, s, _, h => h
  | c :: cs, d, s, hM, h => by
    obtain ⟨h0, h1, h2⟩ := h
    have hcs : ∃ d', okM d' cs := by
      rcases hM with ⟨_, _, h⟩ | ⟨_, _, h⟩
      · exact ⟨_, h⟩
      · exact ⟨_, h⟩
    obtain ⟨d', hcs⟩ := hcs
    refine rs_bound cs d' (rStep s c) hcs ?_
    unfold rStep
    split
    · exact ⟨h0, h1, h2⟩
    · rename_i hc
      have hc' : 48 ≤ c.toNat ∧ c.toNat ≤ 57 := by
        rcases hM with ⟨h, _, _⟩ | ⟨h, h', _⟩
        · exact absurd h hc
        · exact ⟨h, h'⟩
      split
      · exact ⟨h0, h1, h2⟩
      · split
        · rename_i h19
          dsimp only
          have hp : (10 : Int) ^ s.nm ≤ 1000000000000000000 := by
            have : (10 : Nat) ^ s.nm ≤ 10 ^ 18 := Nat.pow_le_pow_right (by decide) (by omega)
            have := Int.ofNat_le.2 this
            simpa using this
          have e1 : IntKind.u64.wrap (s.m * 10) = s.m * 10 := by rw [IntKind.wrap_u64]; omega
          have e2 : IntKind.u64.wrap (s.m * 10 + ((c.toNat : Int) - 48)) = s.m * 10 + ((c.toNat : Int) - 48) := by rw [IntKind.wrap_u64]; omega
          rw [e1, e2, Int.pow_succ]
          exact ⟨by omega, by omega, by omega⟩
        · exact ⟨h0, h1, h2⟩
theorem rs_fin (M : List UInt8) (hM : okM false M) : ∃ d : Nat, (M.foldl rStep rs0).m = d ∧ d < 10000000000000000000 := by
  obtain ⟨h0, h1, h2⟩ := rs_bound M false rs0 hM ⟨by decide, by decide, by decide⟩
  have : (10 : Nat) ^ (M.foldl rStep rs0).nm ≤ 10 ^ 19 := Nat.pow_le_pow_right (by decide) h2
  have := Int.ofNat_le.2 this
  refine ⟨(M.foldl rStep rs0).m.toNat, by omega, ?_⟩
  simp at this
  omega
theorem ds_inv : ∀ (M : List UInt8) (d : Bool) (s : DS) (r : RS), okM d M → (s.L = [] ∨ Nrm s.L) → s.dg = r.dg →
    ((M.foldl dStep s).L = [] ∨ Nrm (M.foldl dStep s).L) ∧ (M.foldl dStep s).dg = (M.foldl rStep r).dg
  | [], _, s, r, _, h, h2 => ⟨h, h2⟩
  | c :: cs, d, s, r, hM, h, h2 => by
    have hcs : ∃ d', okM d' cs := by
      rcases hM with ⟨_, _, h⟩ | ⟨_, _, h⟩
      · exact ⟨_, h⟩
      · exact ⟨_, h⟩
    obtain ⟨d', hcs⟩ := hcs
    refine ds_inv cs d' (dStep s c) (rStep r c) hcs ?_ ?_
    · unfold dStep
      split
      · exact h
      · rename_i hc
        have hc' : 48 ≤ c.toNat ∧ c.toNat ≤ 57 := by
          rcases hM with ⟨h, _, _⟩ | ⟨h, h', _⟩
          · exact absurd h hc
          · exact ⟨h, h'⟩
        split
        · exact h
        · rename_i hz
          split
          · rename_i hlt
            right
            dsimp only
            rcases h with h | h
            · rw [h]
              rw [h] at hz
              refine ⟨?_, by simp, ?_, by simp⟩
              · intro x hx
                simp at hx
                subst hx
                omega
              · have : ¬ c.toNat = 48 := fun e => hz ⟨e, rfl⟩
                simp
                omega
            · refine ⟨?_, by simp, ?_, by simp; omega⟩
              · intro x hx
                rcases List.mem_append.1 hx with hx | hx
                · exact h.dg x hx
                · simp at hx
                  subst hx
                  omega
              · have := h.hd
                have h3 := h.ne
                cases hL : s.L with
                | nil => exact absurd hL h3
                | cons a tl => rw [hL] at this; exact this
          · exact h
    · unfold dStep rStep
      repeat' split
      all_goals first | rfl | exact h2
theorem ds_nrm (M : List UInt8) (hM : okM false M) : ((M.foldl dStep ds0).L = [] ∨ Nrm (M.foldl dStep ds0).L) ∧ (M.foldl dStep ds0).dg = (M.foldl rStep rs0).dg :=
  ds_inv M false ds0 rs0 hM (.inl rfl) rfl

def atP (d : Nat) (p : Int) (tr : Bool) (s : St) : Nat × Value :=
  if d = 0 then (0, .nilIface)
  else if 310 < p then (infR, .iface 162 (.int .i64 1))
  else if p < -345 then (0, .nilIface)
  else match (if tr then none else aeF d p) with
    | some r => (r, .nilIface)
    | none => if tr = false then pfP d p else if (Ieee.double.order (pfP d p).1 (pfP (d + 1) p).1 == some .eq) = true then pfP d p else fbP s
theorem atP_ok (d : Nat) (p : Int) (tr : Bool) (s : St) (hd : d < 10000000000000000000) : okV (atP d p tr s).1 (atP d p tr s).2 := by
  unfold atP
  split
  · exact ⟨Nat.zero_le _, fun _ => by decide, .inl rfl⟩
  · rename_i h0
    split
    · exact ⟨Nat.le_refl _, fun h => (by cases h), .inr rfl⟩
    · split
      · exact ⟨Nat.zero_le _, fun _ => by decide, .inl rfl⟩
      · split
        · rename_i r hr
          have := aeF_fin d p r (by cases tr <;> simp at hr; exact hr)
          exact ⟨Nat.le_of_lt this, fun _ => this, .inl rfl⟩
        · split
          · exact pf_ok d p h0 (by omega) (by omega) (by omega)
          · split
            · exact pf_ok d p h0 (by omega) (by omega) (by omega)
            · exact fbP_ok s
end Go.Proofs.YthfjakbpeclfcaaGreatDoor

namespace Go.Proofs.YthfjakbpeclfcaaGreatDoor
open Go.RowKit Go

structure NumW (B : Nat) (w : World) : Prop where
  hB : 19 ≤ B
  hs : B ≤ w.heap.size
  o9 : w.cell? ⟨9, 0, none⟩ = some (.bool true)
  i0 : w.cell? ⟨10, 0, none⟩ = some (.int .u64 52)
  i1 : w.cell? ⟨10, 1, none⟩ = some (.int .u64 11)
  i2 : w.cell? ⟨10, 2, none⟩ = some (.int .i64 (-1023))
  pwt : ∃ lb lo lc : Nat, lb < B ∧ w.cell? ⟨12, 0, none⟩ = some (.slice (some ⟨lb, lo, none⟩) 9 lc) ∧
    ∀ k, k < 9 → w.cell? ⟨lb, lo + k, none⟩ = some (.int .i64 (pw.getD k 1 : Nat))
  ten : ∃ lb lo lc : Nat, lb < B ∧ w.cell? ⟨13, 0, none⟩ = some (.slice (some ⟨lb, lo, none⟩) 23 lc) ∧ ∀ k, k < 23 → w.cell? ⟨lb, lo + k, none⟩ = some (.float .f64 (ten k))
  pow : ∀ i, i < 696 → w.cell? ⟨14, i * 2, none⟩ = some (.int .u64 (p10h i)) ∧ w.cell? ⟨14, i * 2 + 1, none⟩ = some (.int .u64 (p10l i))
  cht : ∃ lb lo lc : Nat, lb < B ∧ w.cell? ⟨15, 0, none⟩ = some (.slice (some ⟨lb, lo, none⟩) 61 lc) ∧
    ∀ k, k < 61 → w.cell? ⟨lb, lo + k * 2, none⟩ = some (.int .i64 (chD k)) ∧ w.cell? ⟨lb, lo + k * 2 + 1, none⟩ = some (.string ⟨(chS k).toArray⟩)
section
variable {B : Nat} {w w' : World}
theorem NumW.below (h : NumW B w) (hb : Below B w w') : NumW B w' := by
  have hB := h.hB
  have g : ∀ (b o : Nat) (v : Value), b < B → w.cell? ⟨b, o, none⟩ = some v → w'.cell? ⟨b, o, none⟩ = some v := fun b o v hb' hc => (hb.cell (p := ⟨b, o, none⟩) hb').trans hc
  obtain ⟨l1, l2, l3, l4, l5, l6⟩ := h.pwt
  obtain ⟨m1, m2, m3, m4, m5, m6⟩ := h.ten
  obtain ⟨n1, n2, n3, n4, n5, n6⟩ := h.cht
  exact ⟨hB, Nat.le_trans h.hs hb.size, g _ _ _ (by omega) h.o9, g _ _ _ (by omega) h.i0, g _ _ _ (by omega) h.i1, g _ _ _ (by omega) h.i2,
    ⟨l1, l2, l3, l4, g _ _ _ (by omega) l5, fun k hk => g _ _ _ l4 (l6 k hk)⟩, ⟨m1, m2, m3, m4, g _ _ _ (by omega) m5, fun k hk => g _ _ _ m4 (m6 k hk)⟩,
    fun i hi => ⟨g _ _ _ (by omega) (h.pow i hi).1, g _ _ _ (by omega) (h.pow i hi).2⟩,
    ⟨n1, n2, n3, n4, g _ _ _ (by omega) n5, fun k hk => ⟨g _ _ _ n4 (n6 k hk).1, g _ _ _ n4 (n6 k hk).2⟩⟩⟩
theorem NumW.powAt (h : NumW B w) : PowAt w := ⟨by have := h.hB; have := h.hs; omega, h.pow⟩
theorem NumW.tenAt (h : NumW B w) : TenAt w := by
  obtain ⟨m1, m2, m3, m4, m5, m6⟩ := h.ten
  exact ⟨m1, m2, m3, m5, m6⟩
theorem NumW.fltAt (h : NumW B w) {g : Nat} (hg : B ≤ g) : FltAt w g := by
  have := h.hB
  obtain ⟨l1, l2, l3, l4, l5, l6⟩ := h.pwt
  exact ⟨by omega, by omega, h.i0, h.i1, h.i2, l1, l2, l3, by omega, l5, l6⟩
theorem NumW.cheatAt (h : NumW B w) {g : Nat} (hg : B ≤ g) : CheatAt w g := by
  have := h.hB
  obtain ⟨n1, n2, n3, n4, n5, n6⟩ := h.cht
  exact ⟨by omega, n1, n2, n3, by omega, n5, n6⟩
theorem NumW.drewN (h : NumW B w) (n : Nat) : NumW B (w.drewN n) := h.below ⟨rfl, rfl, rfl, Nat.le_refl _, fun _ _ => rfl⟩
end

/-- What atof64 yields for a decimal of the grammar (digits and a point, and what the exponent moves the point by). -/
def atD (M : List UInt8) : Nat := (M.foldl rStep rs0).m.toNat
def atE (M : List UInt8) (x : Int) : Int := if (M.foldl rStep rs0).m = 0 then 0 else (if (M.foldl rStep rs0).dot then (M.foldl rStep rs0).dp else (M.foldl rStep rs0).nd) + x - (M.foldl rStep rs0).nm
def atS (M : List UInt8) (x : Int) : St := ((M.foldl dStep ds0).L, (if (M.foldl dStep ds0).dot then (M.foldl dStep ds0).dp else (M.foldl dStep ds0).L.length) + x, (M.foldl dStep ds0).tr)
def atV (M : List UInt8) (x : Int) : Nat × Value := atP (atD M) (atE M x) (M.foldl rStep rs0).tr (atS M x)
theorem atV_ok (M : List UInt8) (x : Int) (hM : okM false M) : okV (atV M x).1 (atV M x).2 := by
  obtain ⟨d, h1, h2⟩ := rs_fin M hM
  refine atP_ok _ _ _ _ ?_
  unfold atD
  rw [h1]
  simpa using h2
end Go.Proofs.YthfjakbpeclfcaaGreatDoor

namespace Go.Proofs.YthfjakbpeclfcaaGreatDoor
open Go.RowKit Go
attribute [local go_sem] run_f132

theorem ext_all (S : ByteArray) : S.extract 0 S.size = S := by
  cases S with
  | mk d =>
    have h := ByteArray.extract_mk d.toList 0 d.size
    rw [Array.toArray_toList] at h
    refine h.trans ?_
    simp
    rw [List.take_of_length_le (by simp)]

set_option maxRecDepth 100000 in
theorem z208 : Tryz.zeroCells208.size = 804 ∧ (∀ i, i < 800 → Tryz.zeroCells208[i]? = some (.int .u8 0)) ∧ Tryz.zeroCells208[800]? = some (.int .i64 0) ∧ Tryz.zeroCells208[801]? = some (.int .i64 0) ∧
    Tryz.zeroCells208[802]? = some (.bool false) ∧ Tryz.zeroCells208[803]? = some (.bool false) := by
  have hd : (Tryz.zeroCells208.size == 804 && (List.range 800).all (fun i => match Tryz.zeroCells208[i]? with | some (.int .u8 0) => true | _ => false)) = true := by kernel_rfl
  rw [Bool.and_eq_true] at hd
  refine ⟨by simp, ?_, by kernel_rfl, by kernel_rfl, by kernel_rfl, by kernel_rfl⟩
  intro i hi
  have := List.all_eq_true.1 hd.2 i (List.mem_range.2 hi)
  split at this
  · rename_i h
    exact h
  · cases this
theorem z208_raw (w : World) : RawAt (w.alloc (.cells Tryz.zeroCells208 208)) w.heap.size (fun _ => 0) ((0 : Nat) : Int) 0 false false := by
  obtain ⟨h1, h2, h3, h4, h5, h6⟩ := z208
  exact ⟨Tryz.zeroCells208, heap_alloc_new w _, h1, h2, h3, h4, h5, h6⟩

set_option maxHeartbeats 4000000 in
set_option maxRecDepth 100000 in
theorem at_any (B : Nat) (w : World) (S : ByteArray) (ng : Bool) (M E : List UInt8) (x : Int) (hW : NumW B w) (hl : S.data.toList = (if ng then [45] else []) ++ (M ++ E)) (hM : okM false M)
    (hg : (M.foldl rStep rs0).dg = true) (hE : ExpIs E x) (hsz : S.size ≤ 100000) :
    Calls Tryz.prog 113 #[.string S] w fun e w' => e = .returned (.tuple #[.float .f64 (sg ng (atV M x).1), .int .i64 S.size, (atV M x).2]) ∧ Below w.heap.size w w' := by
  obtain ⟨c0, R, hMc, hc⟩ : ∃ c0 R, M ++ E = c0 :: R ∧ (c0.toNat = 46 ∨ 48 ≤ c0.toNat ∧ c0.toNat ≤ 57) := by
    cases M with
    | nil => exact absurd hg (by decide)
    | cons c cs =>
      refine ⟨c, cs ++ E, rfl, ?_⟩
      rcases hM with ⟨h, -, -⟩ | ⟨h1, h2, -⟩
      · exact .inl h
      · exact .inr ⟨h1, h2⟩
  obtain ⟨d, hd1, hd2⟩ := rs_fin M hM
  have hsp := fun w => sp_num w S ng c0 R (by rw [hl, hMc]) hc hsz
  have hrf := fun w => rf_num w S ng M E x hl hM hg hE hsz
  have hds : ∀ (w : World) (g : Nat) (D0 : Nat → Int), RawAt w g D0 ((0 : Nat) : Int) 0 false false → Calls Tryz.prog 129 #[.pointer (some ⟨g, 0, none⟩), .string S] w fun e w' => e = .returned (.bool true) ∧
      DecAt w' g (atS M x).1 (atS M x).2.1 ng (atS M x).2.2 ∧ Only g w w' := fun w g D0 h => ds_num w g D0 h S ng M E x hl hM (by rw [(ds_nrm M hM).2]; exact hg) hE hsz
  have hnr := (ds_nrm M hM).1
  have hV : atV M x = atP d (atE M x) (M.foldl rStep rs0).tr (atS M x) := by
    unfold atV atD
    rw [hd1]
    rfl
  rw [hd1] at hrf
  have hatE : (if (d : Int) = 0 then 0 else (if (M.foldl rStep rs0).dot then (M.foldl rStep rs0).dp else (M.foldl rStep rs0).nd) + x - (M.foldl rStep rs0).nm) = atE M x := by
    unfold atE
    rw [hd1]
  rw [hatE] at hrf
  have hS : S.extract 0 S.size = S := ext_all S
  have hfb : ∀ (w : World) (g : Nat), DecAt w g (atS M x).1 (atS M x).2.1 ng (atS M x).2.2 → FltAt w g → CheatAt w g → Calls Tryz.prog 130 #[.pointer (some ⟨g, 0, none⟩), .pointer (some ⟨10, 0, none⟩)] w fun e w' =>
      e = .returned (.tuple #[.int .u64 (asmS ng (fbR (atS M x)).1 (fbR (atS M x)).2.1), .bool (fbR (atS M x)).2.2]) ∧ Only g w w' :=
    fun w g h hF hC => fb_any w g (atS M x).1 (atS M x).2.1 ng (atS M x).2.2 h hnr hF hC
  have hfs := fbP_sign (atS M x) ng
  rw [hV]
  generalize atE M x = p at *
  generalize atS M x = s at *
  generalize (M.foldl rStep rs0).tr = tr at *
  have HSP := Lib.hid hsp
  have HRF := Lib.hid hrf
  have HDS := Lib.hid hds
  have HFB := Lib.hid hfb
  have HFS := Lib.hid hfs
  have HW := Lib.hid hW
  have o9 := hW.o9
  clear hsp hrf hds hfb hfs hW hV hl hM hg hE hMc hatE hd1 hnr
  go_enter Tryz.func113, Tryz.ntmps113
  go_wp2_with fail
  refine (HSP.out _).mono ?_
  rintro e w1 ⟨rfl, rfl⟩
  go_wp2_with fail
  refine (HRF.out _).mono ?_
  rintro e w1 ⟨rfl, n, rfl⟩
  go_wp2_with fail
  refine (bool2u_any _ _).mono ?_
  rintro e w' ⟨rfl, rfl⟩
  have hsw : IntKind.u64.wrap ((b2n ng : Int) * 9223372036854775808) = (sgw ng : Int) := by cases ng <;> decide
  have hor0 : bits .or .u64 (sgw ng : Int) 0 = (sgw ng : Int) := by cases ng <;> decide
  have hor1 : bits .or .u64 (sgw ng : Int) 9218868437227405312 = ((sgw ng + infR : Nat) : Int) := by cases ng <;> decide
  have hbd : Below w1.heap.size w1 (w1.drewN n) := (Below.refl _ w1).trans ⟨rfl, rfl, rfl, Nat.le_refl _, fun _ _ => rfl⟩
  have hgW := HW.out.drewN n
  have HBD := Lib.hid hbd
  clear hbd
  by_cases h0 : d = 0
  · have h0' : ((d : Int) == 0) = true := by simp; omega
    have hat : atP d p tr s = (0, .nilIface) := by unfold atP; rw [if_pos h0]
    have HAT := Lib.hid hat
    clear hat h0
    go_wp2
    refine bodyPost_ret (results_tmp3 rfl _ _ _) rfl ?_
    refine ⟨?_, HBD.out⟩
    rw [HAT.out, sg_sgw]
    rfl
  · have h0' : ((d : Int) == 0) = false := by simp; omega
    by_cases hp : 310 < p
    · have hat : atP d p tr s = (infR, .iface 162 (.int .i64 1)) := by unfold atP; rw [if_neg h0, if_pos hp]
      have HAT := Lib.hid hat
      clear hat
      go_wp2
      refine bodyPost_ret (results_tmp3 rfl _ _ _) rfl ?_
      refine ⟨?_, HBD.out⟩
      rw [HAT.out, sg_sgw]
      rfl
    · by_cases hp2 : p < -345
      · have hat : atP d p tr s = (0, .nilIface) := by unfold atP; rw [if_neg h0, if_neg hp, if_pos hp2]
        have HAT := Lib.hid hat
        clear hat
        go_wp2
        refine bodyPost_ret (results_tmp3 rfl _ _ _) rfl ?_
        refine ⟨?_, HBD.out⟩
        rw [HAT.out, sg_sgw]
        rfl
      · have hp3 : -345 ≤ p := by omega
        have hp4 : p ≤ 310 := by omega
        have h0n : ¬ d = 0 := h0
        have H0 := Lib.hid h0n
        clear h0 h0n hp hp2
        cases tr
        · go_wp2_with fail
          refine (ae_any _ d p (by omega) (by omega) ng hgW.i0 hgW.tenAt).mono ?_
          rintro e w' ⟨⟨ff, rfl, hff⟩, rfl⟩
          cases hae : aeF d p with
          | some r =>
            rw [hff r hae]
            have hat : atP d p false s = (r, .nilIface) := by unfold atP; rw [if_neg H0.out, if_neg (by omega), if_neg (by omega), if_neg (by decide), hae]
            have HAT := Lib.hid hat
            clear hat hff hae
            go_wp2
            refine bodyPost_ret (results_tmp3 rfl _ _ _) rfl ?_
            refine ⟨?_, HBD.out⟩
            rw [HAT.out]
            rfl
          | none =>
            have hat : atP d p false s = pfP d p := by unfold atP; rw [if_neg H0.out, if_neg (by omega), if_neg (by omega), if_neg (by decide), hae]; rfl
            have HAT := Lib.hid hat
            clear hat hff hae
            go_wp2_with fail
            refine (pf_any d p ng H0.out (by omega) (by omega) (by omega) _ hgW.powAt).mono ?_
            rintro e w' ⟨rfl, hb⟩
            go_wp2
            refine bodyPost_ret (results_tmp3 rfl _ _ _) rfl ?_
            refine ⟨?_, HBD.out.trans (hb.mono HBD.out.size)⟩
            rw [HAT.out]
            rfl
        · have hd1 : IntKind.u64.wrap ((d : Int) + 1) = ((d + 1 : Nat) : Int) := by rw [IntKind.wrap_u64]; omega
          have hok1 := pf_ok d p H0.out (by omega) (by omega) (by omega)
          have hok2 := pf_ok (d + 1) p (by omega) (by omega) (by omega) (by omega)
          have hord := order_sg ng (pfP d p).1 (pfP (d + 1) p).1 (by have := hok1.1; unfold infR at this; omega) (by have := hok2.1; unfold infR at this; omega)
          have hat : atP d p true s = if (Ieee.double.order (pfP d p).1 (pfP (d + 1) p).1 == some .eq) = true then pfP d p else fbP s := by
            unfold atP; rw [if_neg H0.out, if_neg (by omega), if_neg (by omega)]; rfl
          have hpf1 := fun w h => pf_any d p ng H0.out (by omega) (by omega) (by omega) w h
          have hpf2 := fun w h => pf_any (d + 1) p ng (by omega) (by omega) (by omega) (by omega) w h
          have HAT := Lib.hid hat
          clear hat hok1 hok2
          generalize pfP d p = v1 at *
          generalize pfP (d + 1) p = v2 at *
          obtain ⟨r1, e1⟩ := v1
          obtain ⟨r2, e2⟩ := v2
          dsimp only at *
          have HPF2 := Lib.hid hpf2
          clear hpf2
          go_wp2_with fail
          refine (hpf1 _ hgW.powAt).mono ?_
          rintro e w2 ⟨rfl, hb⟩
          have hgW2 := hgW.below (hb.mono hgW.hs)
          clear hpf1
          go_wp2_with fail
          refine (HPF2.out _ hgW2.powAt).mono ?_
          rintro e w3 ⟨rfl, hb3⟩
          have hgW3 := hgW2.below (hb3.mono hgW2.hs)
          have hb4 : Below w1.heap.size w1 w3 := (HBD.out.trans (hb.mono HBD.out.size)).trans (hb3.mono (Nat.le_trans HBD.out.size hb.size))
          have HB4 := Lib.hid hb4
          clear hb3 hb hb4
          cases hc : (Ieee.double.order r1 r2 == some .eq)
          · rw [hc] at hord
            have hord2 : (FloatKind.f64.format.order (sg ng r1) (sg ng r2) == some Ordering.eq) = false := hord
            have HC := Lib.hid hc
            clear hc
            have hz : RawAt (w3.alloc (.cells Tryz.zeroCells208 208)) w3.heap.size (fun _ => 0) ((0 : Nat) : Int) 0 false false := z208_raw w3
            have hB3 : B ≤ w3.heap.size := hgW3.hs
            go_wp2_with (go_at_call 129; refine (HDS.out _ _ (fun _ => 0) hz).mono ?_)
            rintro e w4 ⟨rfl, hdec, honly⟩
            have hal : Below w1.heap.size w1 (w3.alloc (.cells Tryz.zeroCells208 208)) := HB4.out.alloc HB4.out.size _
            have hb5 : Below w1.heap.size w1 w4 := hal.trans (honly.below HB4.out.size)
            have hgW4 : NumW B w4 := (hgW3.below ((Below.refl B w3).alloc hB3 _)).below (honly.below hB3)
            have HB5 := Lib.hid hb5
            have HD := Lib.hid hdec
            clear hz hdec honly hal hb5
            go_wp2_with (go_at_call 130; refine (HFB.out _ _ HD.out (hgW4.fltAt hB3) (hgW4.cheatAt hB3)).mono ?_)
            rintro e w5 ⟨rfl, honly⟩
            have hb6 : Below w1.heap.size w1 w5 := HB5.out.trans (honly.below HB4.out.size)
            have hfs := HFS.out
            have hov : (fbP s).2 = if (fbR s).2.2 then .iface 162 (.int .i64 1) else .nilIface := rfl
            have HB6 := Lib.hid hb6
            have HFS2 := Lib.hid hfs
            have HOV := Lib.hid hov
            clear hb6 hfs hov honly
            cases hov2 : (fbR s).2.2
            · go_wp2
              refine bodyPost_ret (results_tmp3 rfl _ _ _) rfl ?_
              refine ⟨?_, HB6.out⟩
              rw [HAT.out, if_neg (by rw [HC.out]; decide), HOV.out, hov2, ← HFS2.out.1]
              rfl
            · go_wp2
              refine bodyPost_ret (results_tmp3 rfl _ _ _) rfl ?_
              refine ⟨?_, HB6.out⟩
              rw [HAT.out, if_neg (by rw [HC.out]; decide), HOV.out, hov2, ← HFS2.out.1]
              rfl
          · rw [hc] at hord
            have hord2 : (FloatKind.f64.format.order (sg ng r1) (sg ng r2) == some Ordering.eq) = true := hord
            have HC := Lib.hid hc
            clear hc
            go_wp2
            refine bodyPost_ret (results_tmp3 rfl _ _ _) rfl ?_
            refine ⟨?_, HB4.out⟩
            rw [HAT.out, if_pos HC.out]
            rfl
end Go.Proofs.YthfjakbpeclfcaaGreatDoor
