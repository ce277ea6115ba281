/-
  The library's floatBits of a decimal.
  The library's floatBits of a decimal: the long road.
-/
import Derived.Test.YthfjakbpeclfcaaGreatDoorGSh
import Derived.WalkMore
namespace Go.Proofs.YthfjakbpeclfcaaGreatDoor
open Go.RowKit Go

/-- A scope that is left forward: to its label 0 or to its label 1. -/
def two (K0 K1 : Act → World → Prop) (Q : Exit → Act → World → Prop) : Exit → Act → World → Prop
  | .goto l, a, w => match l with
    | 0 => K0 a w
    | 1 => K1 a w
    | _ => False
  | e, a, w => Q e a w
section
variable {P : Program} {a : Act} {w : World} {Q : Exit → Act → World → Prop} {K0 K1 : Act → World → Prop}
theorem two_normal : two K0 K1 Q .normal a w = Q .normal a w := rfl
theorem two_exit (id : Nat) : two K0 K1 Q (.exit id) a w = Q (.exit id) a w := rfl
theorem two_ret : two K0 K1 Q .ret a w = Q .ret a w := rfl
theorem two_panic (ch : List PanicEntry) : two K0 K1 Q (.panic ch) a w = Q (.panic ch) a w := rfl
theorem two_0 : two K0 K1 Q (.goto 0) a w = K0 a w := rfl
theorem two_1 : two K0 K1 Q (.goto 1) a w = K1 a w := rfl

theorem wp_two {c r0 r1 : Code} (h0 : findLabel c 0 = some r0) (h1 : findLabel c 1 = some r1)
    (h : ∀ K0 K1 : Act → World → Prop, (∀ a w, r0.wp P (Exit.noGoto Q) a w → K0 a w) → (∀ a w, r1.wp P (Exit.noGoto Q) a w → K1 a w) → c.wp P (two K0 K1 Q) a w) :
    (Code.scope c).wp P Q a w := by
  intro b k cs
  have hg0 : gotoIn 0 (.inScope c :: k) = some (.code r0 :: .inScope c :: k) := by simp [gotoIn, h0]
  have hg1 : gotoIn 1 (.inScope c :: k) = some (.code r1 :: .inScope c :: k) := by simp [gotoIn, h1]
  have key : ∀ (r : Code) a w, r.wp P (Exit.noGoto Q) a w → ∃ e a' w', Q e a' w' ∧ Arrives P (lone (b.at a (.code r :: .inScope c :: k)) cs w) b k cs e a' w' := by
    intro r a w hr
    obtain ⟨e, a₁, w₁, hq, harr⟩ := hr b (.inScope c :: k) cs
    cases e with
    | normal => exact ⟨.normal, a₁, w₁, hq, Steps.trans harr (.one step_inScope)⟩
    | exit id => exact ⟨.exit id, a₁, w₁, hq, fun k' hk => harr k' (by simp [exitTo, hk])⟩
    | goto l => exact hq.elim
    | ret => exact ⟨_, a₁, w₁, hq, harr⟩
    | panic ch => exact ⟨_, a₁, w₁, hq, harr⟩
    | outgrown => exact ⟨_, a₁, w₁, hq, harr⟩
  obtain ⟨e, a₁, w₁, hq, harr⟩ := h (fun a w => r0.wp P (Exit.noGoto Q) a w) (fun a w => r1.wp P (Exit.noGoto Q) a w) (fun _ _ x => x) (fun _ _ x => x) b (.inScope c :: k) cs
  cases e with
  | normal => exact ⟨.normal, a₁, w₁, hq, .head step_scope (Steps.trans harr (.one step_inScope))⟩
  | exit id => exact ⟨.exit id, a₁, w₁, hq, fun k' hk => .head step_scope (harr k' (by simp [exitTo, hk]))⟩
  | goto l =>
    match l, hq with
    | 0, hq =>
      obtain ⟨e₂, a₂, w₂, hq₂, harr₂⟩ := key _ _ _ hq
      exact ⟨e₂, a₂, w₂, hq₂, .of_steps (.head step_scope (harr _ hg0)) harr₂⟩
    | 1, hq =>
      obtain ⟨e₂, a₂, w₂, hq₂, harr₂⟩ := key _ _ _ hq
      exact ⟨e₂, a₂, w₂, hq₂, .of_steps (.head step_scope (harr _ hg1)) harr₂⟩
    | _ + 2, hq => exact hq.elim
  | ret => exact ⟨_, a₁, w₁, hq, .of_steps (.one step_scope) harr⟩
  | panic ch => exact ⟨_, a₁, w₁, hq, .of_steps (.one step_scope) harr⟩
  | outgrown => exact ⟨_, a₁, w₁, hq, .of_steps (.one step_scope) harr⟩
end
attribute [local go_sem] two_normal two_exit two_ret two_panic two_0 two_1


/-- The shape of a double, and the table of the steps, lie in w, not in block g. -/
structure FltAt (w : World) (g : Nat) : Prop where
  ne10 : g ≠ 10
  ne12 : g ≠ 12
  i0 : w.cell? ⟨10, 0, none⟩ = some (.int .u64 52)
  i1 : w.cell? ⟨10, 1, none⟩ = some (.int .u64 11)
  i2 : w.cell? ⟨10, 2, none⟩ = some (.int .i64 (-1023))
  tab : ∃ lb lo lc : Nat, lb ≠ g ∧ w.cell? ⟨12, 0, none⟩ = some (.slice (some ⟨lb, lo, none⟩) 9 lc) ∧
    ∀ k, k < 9 → w.cell? ⟨lb, lo + k, none⟩ = some (.int .i64 (pw.getD k 1 : Nat))
theorem FltAt.only {w w' : World} {g : Nat} (h : FltAt w g) (ho : Only g w w') : FltAt w' g := by
  obtain ⟨lb, lo, lc, h1, h2, h3⟩ := h.tab
  exact ⟨h.ne10, h.ne12, (ho.cell (fun e => h.ne10 e.symm)).trans h.i0, (ho.cell (fun e => h.ne10 e.symm)).trans h.i1, (ho.cell (fun e => h.ne10 e.symm)).trans h.i2,
    lb, lo, lc, h1, (ho.cell (fun e => h.ne12 e.symm)).trans h2, fun k hk => (ho.cell h1).trans (h3 k hk)⟩
theorem FltAt.drewN {w : World} {g : Nat} (h : FltAt w g) (n : Nat) : FltAt (w.drewN n) g := h.only ((Only.refl g w).drewN n)
theorem CheatAt.drewN {w : World} {g : Nat} (h : CheatAt w g) (n : Nat) : CheatAt (w.drewN n) g := h.only ((Only.refl g w).drewN n)

set_option maxHeartbeats 1000000 in
set_option maxRecDepth 100000 in
theorem fb_zero (w : World) (g : Nat) (dp : Int) (ng tr : Bool) (h : DecAt w g [] dp ng tr) (hF : FltAt w g) :
    Calls Tryz.prog 130 #[.pointer (some ⟨g, 0, none⟩), .pointer (some ⟨10, 0, none⟩)] w fun e w' => e = .returned (.tuple #[.int .u64 (asmS ng 0 (-1023)), .bool false]) ∧ Only g w w' := by
  obtain ⟨D, hr, -⟩ := h
  have cnd := hr.cnd
  have cng := hr.cng
  have i0 := hF.i0
  have i1 := hF.i1
  have i2 := hF.i2
  clear hr hF
  cases ng <;>
  · go_enter Tryz.func130, Tryz.ntmps130
    go_wp2
    refine wp_two rfl rfl ?_
    intro K0 K1 k0 k1
    go_wp2
    go_step3
    apply k0
    clear k0 k1
    go_wp2
    go_quiet (fail)
    go_wp2
    (try (go_quiet (fail); go_wp2))
    rw [Exit.noGoto_ret]
    go_ret2
    first | exact ⟨rfl, (Only.refl _ _).drewN _⟩ | exact ⟨rfl, ((Only.refl _ _).drewN _).drewN _⟩

set_option maxHeartbeats 1000000 in
set_option maxRecDepth 100000 in
theorem fb_low (w : World) (g : Nat) (L : List Int) (dp : Int) (ng tr : Bool) (h : DecAt w g L dp ng tr) (hL : L ≠ []) (hdp : dp < -330) (hF : FltAt w g) :
    Calls Tryz.prog 130 #[.pointer (some ⟨g, 0, none⟩), .pointer (some ⟨10, 0, none⟩)] w fun e w' => e = .returned (.tuple #[.int .u64 (asmS ng 0 (-1023)), .bool false]) ∧ Only g w w' := by
  have hne : ((L.length : Int) == 0) = false := by
    have := List.length_pos_iff.2 hL
    rw [beq_eq_false_iff_ne]
    omega
  have cnd := h.cnd
  obtain ⟨D, hr, -⟩ := h
  have cdp := hr.cdp
  have cng := hr.cng
  have i0 := hF.i0
  have i1 := hF.i1
  have i2 := hF.i2
  have h310 : dp ≤ 310 := by omega
  clear hr hF
  cases ng <;>
  · go_enter Tryz.func130, Tryz.ntmps130
    go_wp2
    refine wp_two rfl rfl ?_
    intro K0 K1 k0 k1
    go_wp2
    go_step3
    apply k0
    clear k0 k1
    go_wp2
    go_quiet (fail)
    go_wp2
    (try (go_quiet (fail); go_wp2))
    rw [Exit.noGoto_ret]
    go_ret2
    first | exact ⟨rfl, (Only.refl _ _).drewN _⟩ | exact ⟨rfl, ((Only.refl _ _).drewN _).drewN _⟩

set_option maxHeartbeats 1000000 in
set_option maxRecDepth 100000 in
theorem fb_high (w : World) (g : Nat) (L : List Int) (dp : Int) (ng tr : Bool) (h : DecAt w g L dp ng tr) (hL : L ≠ []) (hdp : 310 < dp) (hF : FltAt w g) :
    Calls Tryz.prog 130 #[.pointer (some ⟨g, 0, none⟩), .pointer (some ⟨10, 0, none⟩)] w fun e w' => e = .returned (.tuple #[.int .u64 (asmS ng 0 1024), .bool true]) ∧ Only g w w' := by
  have hne : ((L.length : Int) == 0) = false := by
    have := List.length_pos_iff.2 hL
    rw [beq_eq_false_iff_ne]
    omega
  have cnd := h.cnd
  obtain ⟨D, hr, -⟩ := h
  have cdp := hr.cdp
  have cng := hr.cng
  have i0 := hF.i0
  have i1 := hF.i1
  have i2 := hF.i2
  clear hr hF
  cases ng <;>
  · go_enter Tryz.func130, Tryz.ntmps130
    go_wp2
    refine wp_two rfl rfl ?_
    intro K0 K1 k0 k1
    go_wp2
    go_step3
    apply k1
    clear k0 k1
    go_wp2
    go_quiet (fail)
    go_wp2
    go_step3
    go_wp2
    go_quiet (fail)
    go_wp2
    (try (go_quiet (fail); go_wp2))
    rw [Exit.noGoto_ret]
    go_ret2
    first | exact ⟨rfl, (Only.refl _ _).drewN _⟩ | exact ⟨rfl, ((Only.refl _ _).drewN _).drewN _⟩
end Go.Proofs.YthfjakbpeclfcaaGreatDoor

namespace Go.Proofs.YthfjakbpeclfcaaGreatDoor
open Go.RowKit Go
attribute [local go_sem] two_normal two_exit two_ret two_panic two_0 two_1

theorem dec_drewN {w : World} {g : Nat} {L : List Int} {dp : Int} {ng tr : Bool} (h : DecAt w g L dp ng tr) (n : Nat) : DecAt (w.drewN n) g L dp ng tr := by
  obtain ⟨D, a, b⟩ := h
  exact ⟨D, a.drewN n, b⟩

set_option maxHeartbeats 1000000 in
set_option maxRecDepth 100000 in
theorem fb_main (w : World) (g : Nat) (L : List Int) (dp : Int) (ng tr : Bool) (h : DecAt w g L dp ng tr) (hN : Nrm L) (hdp0 : -330 ≤ dp) (hdp1 : dp ≤ 310) (hF : FltAt w g) (hC : CheatAt w g) :
    Calls Tryz.prog 130 #[.pointer (some ⟨g, 0, none⟩), .pointer (some ⟨10, 0, none⟩)] w fun e w' =>
      e = .returned (.tuple #[.int .u64 (asmS ng (fb2 (L, dp, tr)).1 (fb2 (L, dp, tr)).2.1), .bool (fb2 (L, dp, tr)).2.2]) ∧ Only g w w' := by
  have hne : ((L.length : Int) == 0) = false := by
    have := List.length_pos_iff.2 hN.ne
    rw [beq_eq_false_iff_ne]
    omega
  have cnd := h.cnd
  have cdp : w.cell? ⟨g, 801, none⟩ = some (.int .i64 dp) := by
    obtain ⟨D, hr, -⟩ := h
    exact hr.cdp
  have H := Lib.hid h
  have HN := Lib.hid hN
  have HF := Lib.hid hF
  have HC := Lib.hid hC
  clear h hN hF hC
  go_enter Tryz.func130, Tryz.ntmps130
  go_wp2
  refine wp_two rfl rfl ?_
  intro K0 K1 k0 k1
  go_upto_block 0 with fail
  go_cut [6] (fun s6 wx => ∃ (t : St) (e : Int), s6 = .int .i64 e ∧ f1 700 (L, dp, tr) 0 = (t, e) ∧ Nrm t.1 ∧ DecAt wx g t.1 t.2.1 ng t.2.2 ∧ t.2.1 ≤ 0 ∧ -830 ≤ t.2.1 ∧ 0 ≤ e ∧ e ≤ 20000 ∧ FltAt wx g ∧ CheatAt wx g ∧ Only g w wx)
  case first =>
    go_wp2_with fail
    go_loopg [6] 700 (fun M s6 wr => ∃ (f : Nat) (t : St) (e : Int), s6 = .int .i64 e ∧ m1 t ≤ M ∧ M ≤ f ∧ f1 700 (L, dp, tr) 0 = f1 f t e ∧ Nrm t.1 ∧ DecAt wr g t.1 t.2.1 ng t.2.2 ∧ t.2.1 ≤ 310 ∧ -830 ≤ t.2.1 ∧ 0 ≤ e ∧ e ≤ 27 * (700 - M) ∧ M ≤ 700 ∧ FltAt wr g ∧ CheatAt wr g ∧ Only g w wr)
    case atStart =>
      refine ⟨700, (L, dp, tr), 0, rfl, ?_, Nat.le_refl _, rfl, HN.out, H.out, hdp1, by show -830 ≤ dp; omega, by omega, by omega, by omega, HF.out, HC.out, Only.refl _ _⟩
      have e : m1 (L, dp, tr) = 2 * dp.toNat + (if 56 ≤ L.headD 48 then 1 else 0) := rfl
      rw [e]
      split <;> omega
    case round =>
      obtain ⟨f, ⟨T, d, b⟩, e, rfl, hM, hMf, hf, hn, hd, hd1, hd0, he0, he1, hM7, hF, hC, hO⟩ := hrel
      dsimp only at hn hd hd1 hd0
      have cdp' : wr.cell? ⟨g, 801, none⟩ = some (.int .i64 d) := by
        obtain ⟨D, hr, -⟩ := hd
        exact hr.cdp
      obtain ⟨lb, lo, lc, p1, p2, p3⟩ := hF.tab
      have HM := Lib.hid hM
      have HFF := Lib.hid hf
      have HNN := Lib.hid hn
      have HD := Lib.hid hd
      have HF' := Lib.hid hF
      have HC' := Lib.hid hC
      have HO := Lib.hid hO
      have P3 := Lib.hid p3
      clear hM hf hn hd hF hC hO p3 cnd cdp
      by_cases hpos : 0 < d
      · obtain ⟨q1, q2, q3, q4⟩ := f1_step (T, d, b) HNN.out hpos
        have Q1 := Lib.hid q1
        have Q2 := Lib.hid q2
        have hm0 : 2 * d.toNat ≤ m1 (T, d, b) := Nat.le_add_right _ _
        have hg1 : 1 < gk := by have := HM.out; omega
        obtain ⟨f', rfl⟩ : ∃ f', f = f' + 1 := ⟨f - 1, by omega⟩
        have hs : f1 700 (L, dp, tr) 0 = f1 f' (shR (nn d) (nn d) (T, d, b)) (e + nn d) := by
          rw [HFF.out, f1, if_pos (by exact hpos)]
        have HS := Lib.hid hs
        obtain ⟨a1, a2, -⟩ := nn_facts d (by omega)
        clear q1 q2 hm0 hs
        dsimp only at q3 q4
        by_cases h9 : 9 ≤ d
        · have hnn : nn d = 27 := if_pos h9
          have HN' := Lib.hid hnn
          clear hnn
          go_wp2
          go_quiet (fail)
          go_wp2_with fail
          refine (shiftR_any _ g (T, d, b) ng 27 (dec_drewN HD.out _) HNN.out (by omega) (by omega) (by show -100000000000 ≤ d; omega) (by show d ≤ 100000000000; omega)).mono ?_
          rintro e1 w1 ⟨rfl, r1, r2⟩
          rw [← HN'.out] at r1
          have R1 := Lib.hid r1
          have R2 := Lib.hid r2
          clear r1 r2
          go_wp2
          go_roundg (gk - 1)
          case measure => omega
          case rel =>
            have HO2 := (HO.out.drewN _).trans R2.out
            exact ⟨f', _, e + nn d, by rw [HN'.out]; go_num, by have := HM.out; have := Q2.out; omega, by omega, HS.out, Q1.out, R1.out, by omega, by omega, by omega, by omega, by omega,
              (HF'.out.drewN _).only R2.out, (HC'.out.drewN _).only R2.out, HO2⟩
        · obtain ⟨m, rfl⟩ := Int.eq_ofNat_of_zero_le (show 0 ≤ d by omega)
          have hm9 : m < 9 := by omega
          have hm9' : (m : Int) < 9 := by omega
          have hnn : nn m = pw.getD m 1 := by unfold nn; rw [if_neg h9, Int.toNat_natCast]
          have hc := P3.out m hm9
          rw [← hnn] at hc
          clear hnn
          generalize hK : nn m = K at *
          have HK := Lib.hid hK
          clear hK
          go_wp2
          go_quiet (fail)
          go_wp2
          go_quiet (fail)
          go_wp2_with fail
          refine (shiftR_any _ g (T, m, b) ng K (dec_drewN HD.out _) HNN.out (by omega) (by omega) (by show -100000000000 ≤ (m : Int); omega) (by show (m : Int) ≤ 100000000000; omega)).mono ?_
          rintro e1 w1 ⟨rfl, r1, r2⟩
          have R1 := Lib.hid r1
          have R2 := Lib.hid r2
          clear r1 r2
          go_wp2
          go_roundg (gk - 1)
          case measure => omega
          case rel =>
            have HO2 := (HO.out.drewN _).trans R2.out
            exact ⟨f', _, e + K, by go_num, by have := HM.out; have := Q2.out; omega, by omega, HS.out, Q1.out, R1.out, by omega, by omega, by omega, by omega, by omega,
              (HF'.out.drewN _).only R2.out, (HC'.out.drewN _).only R2.out, HO2⟩
      · have hpos' : d ≤ 0 := by omega
        go_wp2
        go_meet
        refine ⟨(T, d, b), e, rfl, ?_, HNN.out, HD.out, hpos', hd0, he0, by omega, HF'.out, HC'.out, HO.out⟩
        rw [HFF.out]
        cases f with
        | zero => rfl
        | succ f => rw [f1, if_neg (show ¬ 0 < d by omega)]
  case rest =>
    obtain ⟨⟨T, d, b⟩, e, rfl, hf, hn, hd, hd1, hd0, he0, he1, hF, hC, hO⟩ := hcut
    have HFF := Lib.hid hf
    clear hf cnd cdp HN HF HC H
    have HF := Lib.hid hF
    have HC := Lib.hid hC
    have HO := Lib.hid hO
    have HNN := Lib.hid hn
    have HD := Lib.hid hd
    clear hF hC hO hn hd
    dsimp only at hd1 hd0
    go_upto_block 2 with fail
    go_cut [6] (fun s6 wx => ∃ (t : St) (e' : Int), s6 = .int .i64 e' ∧ f2 9000 (T, d, b) e = (t, e') ∧ Nrm t.1 ∧ DecAt wx g t.1 t.2.1 ng t.2.2 ∧ t.2.1 ≤ 70 ∧ -830 ≤ t.2.1 ∧ -250000 ≤ e' ∧ e' ≤ 20000 ∧ FltAt wx g ∧ CheatAt wx g ∧ Only g w wx)
    case first =>
      go_wp2_with fail
      go_loopg [6] 9000 (fun M s6 wr => ∃ (f : Nat) (t : St) (e' : Int), s6 = .int .i64 e' ∧ m2 t ≤ M ∧ M ≤ f ∧ f2 9000 (T, d, b) e = f2 f t e' ∧ Nrm t.1 ∧ DecAt wr g t.1 t.2.1 ng t.2.2 ∧ t.2.1 ≤ 70 ∧ -830 ≤ t.2.1 ∧ e' ≤ 20000 ∧ -27 * (9000 - (M : Int)) ≤ e' ∧ M ≤ 9000 ∧ FltAt wr g ∧ CheatAt wr g ∧ Only g w wr)
      case atStart =>
        refine ⟨9000, (T, d, b), e, rfl, ?_, Nat.le_refl _, rfl, HNN.out, HD.out, by show d ≤ 70; omega, by show -830 ≤ d; omega, he1, by omega, by omega, HF.out, HC.out, HO.out⟩
        have e : m2 (T, d, b) = 10 * (-d).toNat + (57 - T.headD 48).toNat := rfl
        have := HNN.out.head
        rw [e]
        omega
      case round =>
        obtain ⟨f, ⟨T', d', b'⟩, e', rfl, hM, hMf, hf, hn, hd, hd1', hd0', he1', he0', hM9, hF, hC, hO⟩ := hrel
        dsimp only at hn hd hd1' hd0'
        have cdp' : wr.cell? ⟨g, 801, none⟩ = some (.int .i64 d') := by
          obtain ⟨D, hr, -⟩ := hd
          exact hr.cdp
        obtain ⟨h0, chd, hh0⟩ : ∃ h0 : Int, wr.cell? ⟨g, 0, none⟩ = some (.int .u8 h0) ∧ T'.headD 48 = h0 := by
          obtain ⟨D, hr, hT⟩ := hd
          refine ⟨D 0, hr.dig (by omega), ?_⟩
          have hp := List.length_pos_iff.2 hn.ne
          have h1 := digs_get D (n := T'.length) (i := 0) hp
          rw [hT] at h1
          cases T' with
          | nil => exact absurd rfl hn.ne
          | cons c cs => simpa using h1
        obtain ⟨lb, lo, lc, p1, p2, p3⟩ := hF.tab
        have HH0 := Lib.hid hh0
        have HM := Lib.hid hM
        have HF2 := Lib.hid hf
        have HN' := Lib.hid hn
        have HD' := Lib.hid hd
        have HF' := Lib.hid hF
        have HC' := Lib.hid hC
        have HO' := Lib.hid hO
        have P3 := Lib.hid p3
        clear hM hf hn hd hF hC hO p3 hh0
        by_cases hlo : lo2 (T', d', b') = true
        · obtain ⟨q1, q2, q3, q4⟩ := f2_step (T', d', b') HN'.out hlo
          have Q1 := Lib.hid q1
          have Q2 := Lib.hid q2
          have hd0 : d' ≤ 0 := by
            have : d' < 0 ∨ d' = 0 ∧ T'.headD 48 < 53 := by simpa [lo2] using hlo
            omega
          have hg1 : 1 ≤ gk := by have := HM.out; have := Q2.out; omega
          obtain ⟨f', rfl⟩ : ∃ f', f = f' + 1 := ⟨f - 1, by omega⟩
          have hs : f2 9000 (T, d, b) e = f2 f' (shL (nn (-d')) (nn (-d')) (T', d', b')) (e' - nn (-d')) := by
            rw [HF2.out, f2, if_pos hlo]
          have HS := Lib.hid hs
          obtain ⟨a1, a2, -⟩ := nn_facts (-d') (by omega)
          clear q1 q2 hs
          dsimp only at q3 q4
          by_cases hneg : d' < 0
          · clear hlo
            by_cases h9 : 9 ≤ -d'
            · have hnn : nn (-d') = 27 := if_pos h9
              have HK := Lib.hid hnn
              clear hnn
              go_wp2
              go_quiet (fail)
              go_wp2_with fail
              refine (shiftL_any _ g (T', d', b') ng 27 (dec_drewN HD'.out _) HN'.out (by omega) (by omega) (by show -100000000000 ≤ d'; omega) (by show d' ≤ 100000000000; omega) (HC'.out.drewN _)).mono ?_
              rintro e1 w1 ⟨rfl, r1, r2⟩
              rw [← HK.out] at r1
              have R1 := Lib.hid r1
              have R2 := Lib.hid r2
              clear r1 r2
              go_wp2
              go_roundg (gk - 1)
              case measure => omega
              case rel =>
                have HO2 := (HO'.out.drewN _).trans R2.out
                exact ⟨f', _, e' - nn (-d'), by rw [HK.out]; go_num, by have := HM.out; have := Q2.out; omega, by omega, HS.out, Q1.out, R1.out, by omega, by omega, by omega, by omega, by omega,
                  (HF'.out.drewN _).only R2.out, (HC'.out.drewN _).only R2.out, HO2⟩
            · obtain ⟨m, rfl⟩ : ∃ m : Nat, d' = -(m : Int) := ⟨(-d').toNat, by omega⟩
              have hmm : - -(m : Int) = m := by omega
              have hm9 : m < 9 := by omega
              have hm9' : (m : Int) < 9 := by omega
              have hnn : nn (- -(m : Int)) = pw.getD m 1 := by rw [hmm]; unfold nn; rw [if_neg (by omega), Int.toNat_natCast]
              have hc := P3.out m hm9
              rw [← hnn] at hc
              clear hnn
              generalize hK : nn (- -(m : Int)) = K at *
              have HK := Lib.hid hK
              clear hK
              go_wp2
              go_quiet (fail)
              go_wp2
              go_quiet (fail)
              go_wp2_with fail
              refine (shiftL_any _ g (T', -(m : Int), b') ng K (dec_drewN HD'.out _) HN'.out (by omega) (by omega) (by show -100000000000 ≤ -(m : Int); omega) (by show -(m : Int) ≤ 100000000000; omega) (HC'.out.drewN _)).mono ?_
              rintro e1 w1 ⟨rfl, r1, r2⟩
              have R1 := Lib.hid r1
              have R2 := Lib.hid r2
              clear r1 r2
              go_wp2
              go_roundg (gk - 1)
              case measure => omega
              case rel =>
                have HO2 := (HO'.out.drewN _).trans R2.out
                exact ⟨f', _, e' - K, by go_num, by have := HM.out; have := Q2.out; omega, by omega, HS.out, Q1.out, R1.out, by omega, by omega, by omega, by omega, by omega,
                  (HF'.out.drewN _).only R2.out, (HC'.out.drewN _).only R2.out, HO2⟩
          · obtain rfl : d' = 0 := by omega
            have hh : h0 < 53 := by
              have : T'.headD 48 < 53 := by simpa [lo2] using hlo
              rw [← HH0.out]; exact this
            have hc := P3.out 0 (by omega)
            have hnn : nn (-0) = 1 := nn_zero
            have hc' : wr.cell? ⟨lb, lo, none⟩ = some (.int .i64 1) := hc
            have HK := Lib.hid hnn
            clear hnn hlo hc
            go_wp2
            go_quiet (fail)
            go_wp2
            go_quiet (fail)
            go_wp2_with fail
            refine (shiftL_any _ g (T', 0, b') ng 1 (dec_drewN HD'.out _) HN'.out (by omega) (by omega) (by show (-100000000000 : Int) ≤ 0; omega) (by show (0 : Int) ≤ 100000000000; omega) (HC'.out.drewN _)).mono ?_
            rintro e1 w1 ⟨rfl, r1, r2⟩
            rw [← HK.out] at r1
            have R1 := Lib.hid r1
            have R2 := Lib.hid r2
            clear r1 r2
            go_wp2
            go_roundg (gk - 1)
            case measure => omega
            case rel =>
              have HO2 := (HO'.out.drewN _).trans R2.out
              exact ⟨f', _, e' - nn (-0), by rw [HK.out]; go_num, by have := HM.out; have := Q2.out; omega, by omega, HS.out, Q1.out, R1.out, by omega, by omega, by omega, by omega, by omega,
                (HF'.out.drewN _).only R2.out, (HC'.out.drewN _).only R2.out, HO2⟩
        · have hd0 : 0 ≤ d' := by
            by_cases hx : d' < 0
            · exact absurd (by simp [lo2, hx]) hlo
            · omega
          have hlo' : lo2 (T', d', b') = false := by simpa using hlo
          have HLO := Lib.hid hlo'
          by_cases hz : d' = 0
          · subst hz
            have hh : 53 ≤ h0 := by
              have : ¬ T'.headD 48 < 53 := by simpa [lo2] using hlo
              rw [← HH0.out]; omega
            clear hlo hlo'
            go_wp2
            go_meet
            refine ⟨(T', 0, b'), e', rfl, ?_, HN'.out, HD'.out, by omega, by omega, by omega, by omega, HF'.out, HC'.out, HO'.out⟩
            rw [HF2.out]
            cases f with
            | zero => rfl
            | succ f => rw [f2, if_neg (by rw [HLO.out]; decide)]
          · have hz' : (d' == 0) = false := by simpa using hz
            have HZ := Lib.hid hz
            clear hlo hlo' hz
            go_wp2
            go_meet
            refine ⟨(T', d', b'), e', rfl, ?_, HN'.out, HD'.out, by omega, by omega, by omega, by omega, HF'.out, HC'.out, HO'.out⟩
            rw [HF2.out]
            cases f with
            | zero => rfl
            | succ f => rw [f2, if_neg (by rw [HLO.out]; decide)]
    case rest =>
      obtain ⟨⟨T', d', b'⟩, e', rfl, hf, hn, hd, hd1', hd0', he0', he1', hF, hC, hO⟩ := hcut
      have HF2 := Lib.hid hf
      clear hf HF HC HO HNN HD
      have HF := Lib.hid hF
      have HC := Lib.hid hC
      have HO := Lib.hid hO
      have HNN := Lib.hid hn
      have HD := Lib.hid hd
      clear hF hC hO hn hd
      dsimp only at hd1' hd0'
      have hfb : fb2 (L, dp, tr) = fb3 (T', d', b') e' := by
        unfold fb2
        rw [HFF.out]
        dsimp only
        rw [HF2.out]
      have HFB := Lib.hid hfb
      clear hfb HFF HF2
      have i0 := HF.out.i0
      have i1 := HF.out.i1
      have i2 := HF.out.i2
      go_upto_if 111 with fail
      go_cut [6] (fun s6 wx => ∃ (t : St) (e2 : Int), s6 = .int .i64 e2 ∧ fb2 (L, dp, tr) = fb4 t e2 ∧ Nrm t.1 ∧ DecAt wx g t.1 t.2.1 ng t.2.2 ∧ t.2.1 ≤ 70 ∧ -900000000 ≤ t.2.1 ∧ -1022 ≤ e2 ∧ e2 ≤ 20000 ∧ FltAt wx g ∧ CheatAt wx g ∧ Only g w wx)
      case first =>
        by_cases hlow : e' - 1 < -1022
        · obtain ⟨m, hm⟩ : ∃ m : Nat, -1022 - (e' - 1) = m := ⟨(-1022 - (e' - 1)).toNat, by omega⟩
          have hm0 : 0 < m := by omega
          have hm1 : m ≤ 1000000 := by omega
          have hee : e' - 1 = -1022 - (m : Int) := by omega
          obtain ⟨n1, n2, n3⟩ := shR_nrm m m (T', d', b') hm0 HNN.out
          have N1 := Lib.hid n1
          have N2 := Lib.hid n2
          have N3 := Lib.hid n3
          have HEE := Lib.hid hee
          have HMM := Lib.hid hm
          clear n1 n2 n3 hm
          go_wp2_with fail
          rw [show -1022 - (-1022 - (m : Int)) = m by omega]
          refine (shiftR_any _ g (T', d', b') ng m HD.out HNN.out hm0 hm1 (by show -100000000000 ≤ d'; omega) (by show d' ≤ 100000000000; omega)).mono ?_
          rintro e1 w1 ⟨rfl, r1, r2⟩
          have R1 := Lib.hid r1
          have R2 := Lib.hid r2
          clear r1 r2
          have j0 := (HF.out.only R2.out).i0
          have j1 := (HF.out.only R2.out).i1
          have j2 := (HF.out.only R2.out).i2
          go_wp2
          go_meet
          have n2 := N2.out
          have n3 := N3.out
          refine ⟨_, -1022, by go_num, ?_, N1.out, R1.out, by omega, by omega, by omega, by omega, HF.out.only R2.out, HC.out.only R2.out, HO.out.trans R2.out⟩
          rw [HFB.out, fb3, if_pos (by rw [HEE.out]; omega), HEE.out, show -1022 - (-1022 - (m : Int)) = m by omega, Int.toNat_natCast]
        · have hge : -1022 ≤ e' - 1 := by omega
          go_wp2
          go_meet
          refine ⟨(T', d', b'), e' - 1, by go_num, ?_, HNN.out, HD.out, by show d' ≤ 70; omega, by show -900000000 ≤ d'; omega, by omega, by omega, HF.out, HC.out, HO.out⟩
          rw [HFB.out, fb3, if_neg (by omega)]
      case rest =>
        obtain ⟨⟨T2, d2, b2⟩, e2, rfl, hf, hn, hd, hd2, hd20, he20, he2, hF, hC, hO⟩ := hcut
        clear HFB HF HC HO HNN HD i0 i1 i2
        have HFB := Lib.hid hf
        have HF := Lib.hid hF
        have HC := Lib.hid hC
        have HO := Lib.hid hO
        have HNN := Lib.hid hn
        have HD := Lib.hid hd
        clear hf
        dsimp only at hd hn hd2 hd20
        have i0 := HF.out.i0
        have i1 := HF.out.i1
        have i2 := HF.out.i2
        have cng : wc.cell? ⟨g, 802, none⟩ = some (.bool ng) := by
          obtain ⟨D, hr, -⟩ := HD.out
          exact hr.cng
        clear hF hC hO hd hn
        by_cases hov : 1024 ≤ e2
        · have h3 : 2047 ≤ e2 + 1023 := by omega
          have hfb : fb2 (L, dp, tr) = (0, 1024, true) := by rw [HFB.out, fb4, if_pos hov]
          have HFF := Lib.hid hfb
          clear hfb
          cases ng <;>
          · go_wp2
            go_quiet (fail)
            go_wp2
            go_step3
            apply k1
            clear k0 k1
            go_wp2
            go_quiet (fail)
            go_wp2
            go_step3
            go_wp2
            go_quiet (fail)
            go_wp2
            (try (go_quiet (fail); go_wp2))
            rw [Exit.noGoto_ret]
            go_ret2
            rw [HFF.out]
            first | exact ⟨rfl, HO.out.drewN _⟩ | exact ⟨rfl, (HO.out.drewN _).drewN _⟩
        · have h3 : e2 + 1023 < 2047 := by omega
          obtain ⟨N1, n2, n3⟩ := shL_nrm 53 53 (T2, d2, b2) (by omega) HNN.out
          have NN1 := Lib.hid N1
          clear N1
          dsimp only at n2 n3
          go_wp2
          go_quiet (fail)
          go_wp2_with fail
          refine (shiftL_any _ g (T2, d2, b2) ng 53 (dec_drewN HD.out _) HNN.out (by omega) (by omega) (by show -100000000000 ≤ d2; omega) (by show d2 ≤ 100000000000; omega) (HC.out.drewN _)).mono ?_
          rintro e1 w1 ⟨rfl, r1, r2⟩
          obtain ⟨D3, R1, hD3⟩ := r1
          have R2 := Lib.hid r2
          have HR1 := Lib.hid R1
          have HD3 := Lib.hid hD3
          clear r2 R1 hD3
          go_wp2_with fail
          refine (ri_any _ g D3 _ _ ng _ HR1.out NN1.out.len (by omega) (fun i hi => NN1.out.dg _ (by rw [← HD3.out]; exact digs_mem.2 ⟨i, hi, rfl⟩))).mono ?_
          rintro e1 w2 ⟨rfl, q, rfl⟩
          rw [HD3.out]
          have hfb : fb2 (L, dp, tr) = fb5 (riF (shL 53 53 (T2, d2, b2)).1 (shL 53 53 (T2, d2, b2)).2.1 (shL 53 53 (T2, d2, b2)).2.2) e2 := by rw [HFB.out, fb4, if_neg (by omega)]
          generalize riF (shL 53 53 (T2, d2, b2)).1 (shL 53 53 (T2, d2, b2)).2.1 (shL 53 53 (T2, d2, b2)).2.2 = m at *
          have HO3 := Lib.hid ((HO.out.drewN _).trans R2.out)
          have j0 := ((HF.out.drewN _).only R2.out).i0
          have j1 := ((HF.out.drewN _).only R2.out).i1
          have j2 := ((HF.out.drewN _).only R2.out).i2
          have cng' := HR1.out.cng
          clear HF HC HO HD HNN NN1 n2 n3 HD3 HR1 R2 i0 i1 i2 cng
          have HFB5 := Lib.hid hfb
          clear hfb HFB
          by_cases h53 : m = 9007199254740992
          · subst h53
            by_cases h1023 : 1023 ≤ e2
            · have h4 : 2047 ≤ e2 + 1 + 1023 := by omega
              have hff : fb2 (L, dp, tr) = (0, 1024, true) := by rw [HFB5.out, fb5, if_pos rfl, if_pos h1023]
              have HFF := Lib.hid hff
              clear hff
              cases ng <;>
              · go_wp2
                (try (go_quiet (fail); go_wp2))
                go_step3
                apply k1
                clear k0 k1
                go_wp2
                go_quiet (fail)
                go_wp2
                (try (go_step3; go_wp2; go_quiet (fail); go_wp2))
                (try (go_quiet (fail); go_wp2))
                rw [Exit.noGoto_ret]
                go_ret2
                rw [HFF.out]
                first | exact ⟨rfl, HO3.out.drewN _⟩ | exact ⟨rfl, (HO3.out.drewN _).drewN _⟩ | exact ⟨rfl, ((HO3.out.drewN _).drewN _).drewN _⟩
            · have h4 : e2 + 1 + 1023 < 2047 := by omega
              have hbb : bits .and .u64 4503599627370496 4503599627370496 = 4503599627370496 := by decide
              have hff : fb2 (L, dp, tr) = (4503599627370496, e2 + 1, false) := by rw [HFB5.out, fb5, if_pos rfl, if_neg (by omega), fb6, hbb, if_neg (by decide)]
              have HFF := Lib.hid hff
              clear hff
              cases ng <;>
              · go_wp2
                (try (go_quiet (fail); go_wp2))
                go_step3
                apply k0
                clear k0 k1
                go_wp2
                go_quiet (fail)
                go_wp2
                (try (go_step3; go_wp2; go_quiet (fail); go_wp2))
                (try (go_quiet (fail); go_wp2))
                rw [Exit.noGoto_ret]
                go_ret2
                rw [HFF.out]
                first | exact ⟨rfl, HO3.out.drewN _⟩ | exact ⟨rfl, (HO3.out.drewN _).drewN _⟩ | exact ⟨rfl, ((HO3.out.drewN _).drewN _).drewN _⟩
          · have h53' : (m == 9007199254740992) = false := by simpa using h53
            by_cases h0 : bits .and .u64 m 4503599627370496 = 0
            · have hff : fb2 (L, dp, tr) = (m, -1023, false) := by rw [HFB5.out, fb5, if_neg h53, fb6, if_pos h0]
              have HFF := Lib.hid hff
              clear hff h53
              cases ng <;>
              · go_wp2
                (try (go_quiet (fail); go_wp2))
                go_step3
                apply k0
                clear k0 k1
                go_wp2
                go_quiet (fail)
                go_wp2
                (try (go_step3; go_wp2; go_quiet (fail); go_wp2))
                (try (go_quiet (fail); go_wp2))
                rw [Exit.noGoto_ret]
                go_ret2
                rw [HFF.out]
                first | exact ⟨rfl, HO3.out.drewN _⟩ | exact ⟨rfl, (HO3.out.drewN _).drewN _⟩ | exact ⟨rfl, ((HO3.out.drewN _).drewN _).drewN _⟩
            · have h0' : (bits .and .u64 m 4503599627370496 == 0) = false := by simpa using h0
              have hff : fb2 (L, dp, tr) = (m, e2, false) := by rw [HFB5.out, fb5, if_neg h53, fb6, if_neg h0]
              have HFF := Lib.hid hff
              clear hff h53 h0
              cases ng <;>
              · go_wp2
                (try (go_quiet (fail); go_wp2))
                go_step3
                apply k0
                clear k0 k1
                go_wp2
                go_quiet (fail)
                go_wp2
                (try (go_step3; go_wp2; go_quiet (fail); go_wp2))
                (try (go_quiet (fail); go_wp2))
                rw [Exit.noGoto_ret]
                go_ret2
                rw [HFF.out]
                first | exact ⟨rfl, HO3.out.drewN _⟩ | exact ⟨rfl, (HO3.out.drewN _).drewN _⟩ | exact ⟨rfl, ((HO3.out.drewN _).drewN _).drewN _⟩

theorem fb_any (w : World) (g : Nat) (L : List Int) (dp : Int) (ng tr : Bool) (h : DecAt w g L dp ng tr) (hN : L = [] ∨ Nrm L) (hF : FltAt w g) (hC : CheatAt w g) :
    Calls Tryz.prog 130 #[.pointer (some ⟨g, 0, none⟩), .pointer (some ⟨10, 0, none⟩)] w fun e w' =>
      e = .returned (.tuple #[.int .u64 (asmS ng (fbR (L, dp, tr)).1 (fbR (L, dp, tr)).2.1), .bool (fbR (L, dp, tr)).2.2]) ∧ Only g w w' := by
  rcases hN with rfl | hN
  · have e : fbR ([], dp, tr) = (0, -1023, false) := if_pos rfl
    rw [e]
    exact fb_zero w g dp ng tr h hF
  · have e : fbR (L, dp, tr) = if 310 < dp then (0, 1024, true) else if dp < -330 then (0, -1023, false) else fb2 (L, dp, tr) := if_neg hN.ne
    rw [e]
    by_cases h1 : 310 < dp
    · rw [if_pos h1]
      exact fb_high w g L dp ng tr h hN.ne h1 hF
    · rw [if_neg h1]
      by_cases h2 : dp < -330
      · rw [if_pos h2]
        exact fb_low w g L dp ng tr h hN.ne h2 hF
      · rw [if_neg h2]
        exact fb_main w g L dp ng tr h hN (by omega) (by omega) hF hC
end Go.Proofs.YthfjakbpeclfcaaGreatDoor
