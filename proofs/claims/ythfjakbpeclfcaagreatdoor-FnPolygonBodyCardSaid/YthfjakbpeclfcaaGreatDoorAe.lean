/-
  The library's exact road (atof64exact).
-/
import Derived.Test.YthfjakbpeclfcaaGreatDoorGMm
import Derived.Test.YthfjakbpeclfcaaGreatDoorGFl
namespace Go.Proofs.YthfjakbpeclfcaaGreatDoor
open Go.RowKit Go

def ten (k : Nat) : Nat := tens.getD k 0
structure TenAt (w : World) : Prop where
  tab : ∃ lb lo lc : Nat, w.cell? ⟨13, 0, none⟩ = some (.slice (some ⟨lb, lo, none⟩) 23 lc) ∧ ∀ k, k < 23 → w.cell? ⟨lb, lo + k, none⟩ = some (.float .f64 (ten k))

def aeF (m : Nat) (e : Int) : Option Nat :=
  if m / 4503599627370496 ≠ 0 then none
  else if e = 0 then some (rung m 0)
  else if 0 < e ∧ e ≤ 37 then
    (if 22 < e then (if big15 (mulR (rung m 0) (ten (e - 22).toNat)) then none else some (mulR (mulR (rung m 0) (ten (e - 22).toNat)) (ten 22)))
     else if big15 (rung m 0) then none else some (mulR (rung m 0) (ten e.toNat)))
  else if e < 0 ∧ -22 ≤ e then some (divR (rung m 0) (ten (-e).toNat))
  else none

theorem foi (m : Nat) : floatOfInt .f64 (m : Int) = rung m 0 := by
  unfold floatOfInt FloatKind.nearest FloatKind.encode
  have h : decide ((m : Int) < 0) = false := by simp
  rw [h]
  rfl
theorem r0_fin (m : Nat) (h : m / 4503599627370496 = 0) : rung m 0 < 1076 * 4503599627370496 := by
  by_cases h0 : m = 0
  · subst h0
    rw [rung_zero]
    decide
  · have p52 : (2 : Nat) ^ 52 = 4503599627370496 := by decide
    have hl : m.log2 ≤ 51 := log2_le h0 (by rw [p52]; omega)
    have := rung_fin m 0 51 h0 (by omega) (by omega)
    have e : ((51 : Int) + 1022).toNat = 1073 := by decide
    rw [e] at this
    omega
theorem fin_lt {r a : Nat} (h : r < a * 4503599627370496) (ha : a ≤ 2047) : r < infR := by
  unfold infR
  omega
theorem run_mul (P : Program) (ng : Bool) (r k : Nat) (hr : r < infR) (hk : k < 23) (w : World) :
    (binOp .mul 79 (.float .f64 (sg ng r)) (.float .f64 (ten k))).run P w = .ok (.float .f64 (sg ng (mulR r (ten k)))) w := by
  obtain ⟨n, j, h1, h2, h3, h4⟩ := ten_facts k hk
  exact run_float_arith w .mul 79 .f64 _ _ _ (mul_sg ng r (ten k) n j hr h1).1
theorem run_div (P : Program) (ng : Bool) (r k : Nat) (hr : r < infR) (hk : k < 23) (w : World) :
    (binOp .quo 79 (.float .f64 (sg ng r)) (.float .f64 (ten k))).run P w = .ok (.float .f64 (sg ng (divR r (ten k)))) w := by
  obtain ⟨n, j, h1, h2, h3, h4⟩ := ten_facts k hk
  exact run_float_arith w .quo 79 .f64 _ _ _ (div_sg ng r (ten k) n j hr h1 h2).1
theorem mul_ten {r a k : Nat} (hr : r < infR) (h : r < (a + 1) * 4503599627370496) (hk : k < 23) : mulR r (ten k) < (a + 77) * 4503599627370496 := by
  obtain ⟨n, j, h1, h2, h3, h4⟩ := ten_facts k hk
  exact mul_fin r (ten k) n a 74 j hr h1 h h3
theorem div_ten {r a k : Nat} (hr : r < infR) (h : r < (a + 1) * 4503599627370496) (hk : k < 23) : divR r (ten k) < (a + 5) * 4503599627370496 := by
  obtain ⟨n, j, h1, h2, h3, h4⟩ := ten_facts k hk
  exact div_fin r (ten k) n a j hr h1 h2 h h4
theorem aeF_fin (m : Nat) (e : Int) (r : Nat) (h : aeF m e = some r) : r < infR := by
  unfold aeF at h
  split at h
  · cases h
  · rename_i h0
    have h0 : m / 4503599627370496 = 0 := by omega
    have hr0 := r0_fin m h0
    have hr1 := fin_lt hr0 (by decide)
    split at h
    · cases h; exact hr1
    · split at h
      · rename_i he
        split at h
        · have h2 := mul_ten (k := (e - 22).toNat) hr1 hr0 (by omega)
          split at h
          · cases h
          · cases h
            exact fin_lt (mul_ten (k := 22) (fin_lt h2 (by decide)) h2 (by decide)) (by decide)
        · split at h
          · cases h
          · cases h
            exact fin_lt (mul_ten (k := e.toNat) hr1 hr0 (by omega)) (by decide)
      · split at h
        · cases h
          exact fin_lt (div_ten (k := (-e).toNat) hr1 hr0 (by omega)) (by decide)
        · cases h

set_option maxHeartbeats 1000000 in
set_option maxRecDepth 100000 in
theorem ae_any (w : World) (m : Nat) (e : Int) (he0 : -1000000 ≤ e) (he1 : e ≤ 1000000) (ng : Bool) (i0 : w.cell? ⟨10, 0, none⟩ = some (.int .u64 52)) (hT : TenAt w) :
    Calls Tryz.prog 133 #[.int .u64 m, .int .i64 e, .bool ng] w fun en w' => (∃ f, en = .returned (.tuple #[.float .f64 f, .bool (aeF m e).isSome]) ∧ ∀ r, aeF m e = some r → f = sg ng r) ∧ w' = w := by
  obtain ⟨lb, lo, lc, t1, t2⟩ := hT.tab
  have T2 := Lib.hid t2
  clear t2 hT
  by_cases hm0 : m / 4503599627370496 = 0
  · have hm1 : (((m : Int) / 4503599627370496) != 0) = false := by simp; omega
    have hr0 := r0_fin m hm0
    have hr1 := fin_lt hr0 (by decide)
    have hfoi := foi m
    have hneg : ∀ w, (Op.unary .neg (.float .f64 (rung m 0))).run Tryz.prog w = .ok (.float .f64 (sg true (rung m 0))) w := by
      intro w
      show Result.ok (Value.float .f64 (Op.negFloat .f64 (rung m 0))) w = _
      rw [neg_sg _ (infR_lt hr1)]
    have hsgf : sg false (rung m 0) = rung m 0 := sg_false _
    have HF := Lib.hid hsgf
    have HM0 := Lib.hid hm0
    clear hsgf hm0
    by_cases hz : e = 0
    · subst hz
      have hae : aeF m 0 = some (rung m 0) := by unfold aeF; rw [if_neg (by have := HM0.out; omega), if_pos rfl]
      have HAE := Lib.hid hae
      clear hae
      generalize rung m 0 = r0 at *
      cases ng
      · go_enter Tryz.func133, Tryz.ntmps133
        go_wp2
        go_ret2
        rw [HAE.out]
        exact ⟨⟨_, rfl, fun r h => by cases h; exact HF.out.symm⟩, rfl⟩
      · go_enter Tryz.func133, Tryz.ntmps133
        go_wp2
        go_ret2
        rw [HAE.out]
        exact ⟨⟨_, rfl, fun r h => by cases h; rfl⟩, rfl⟩
    · have hz' : (e == 0) = false := by simpa using hz
      have HZ := Lib.hid hz
      clear hz
      by_cases hpos : 0 < e
      · by_cases h37 : e ≤ 37
        · by_cases h22 : 22 < e
          · obtain ⟨k, rfl⟩ : ∃ k : Nat, e = k + 22 := ⟨(e - 22).toNat, by omega⟩
            have hk23 : k < 23 := by omega
            have hk23' : (k : Int) < 23 := by omega
            have hkk : (k : Int) + 22 - 22 = k := by omega
            have c1 := T2.out k hk23
            have c22 := T2.out 22 (by decide)
            have h2 := mul_ten (k := k) hr1 hr0 hk23
            have h2' := fin_lt h2 (by decide)
            have hae : aeF m ((k : Int) + 22) = if big15 (mulR (rung m 0) (ten k)) then none else some (mulR (mulR (rung m 0) (ten k)) (ten 22)) := by
              unfold aeF
              rw [if_neg (by have := HM0.out; omega), if_neg (by omega), if_pos (by omega), if_pos h22, hkk, Int.toNat_natCast]
            cases ng
            · have m1 : ∀ w, (binOp .mul 79 (.float .f64 (rung m 0)) (.float .f64 (ten k))).run Tryz.prog w = .ok (.float .f64 ((mulR (rung m 0) (ten k)))) w := fun w => by
                have := run_mul Tryz.prog false (rung m 0) k hr1 hk23 w
                simpa only [sg_false] using this
              have m2 : ∀ w, (binOp .mul 79 (.float .f64 (mulR (rung m 0) (ten k))) (.float .f64 (ten 22))).run Tryz.prog w = .ok (.float .f64 ((mulR (mulR (rung m 0) (ten k)) (ten 22)))) w := fun w => by
                have := run_mul Tryz.prog false (mulR (rung m 0) (ten k)) 22 h2' (by decide) w
                simpa only [sg_false] using this
              have o := order15 false (mulR (rung m 0) (ten k)) h2'
              rw [sg_false] at o
              by_cases hb : big15 (mulR (rung m 0) (ten k)) = true
              · rw [hb] at o
                rw [if_pos hb] at hae
                have o1 : (FloatKind.f64.format.order (mulR (rung m 0) (ten k)) 4831355200913801216 == some Ordering.gt) = true := o.1
                have o2 : (FloatKind.f64.format.order (mulR (rung m 0) (ten k)) 14054727237768577024 == some Ordering.lt) = false := o.2
                have HAE := Lib.hid hae
                clear hae
                go_enter Tryz.func133, Tryz.ntmps133
                go_wp2
                go_ret2
                rw [HAE.out]
                exact ⟨⟨_, rfl, fun r h => by cases h⟩, rfl⟩
              · have hb : big15 (mulR (rung m 0) (ten k)) = false := by simpa using hb
                rw [hb] at o
                rw [if_neg (by rw [hb]; decide)] at hae
                have o1 : (FloatKind.f64.format.order (mulR (rung m 0) (ten k)) 4831355200913801216 == some Ordering.gt) = false := o.1
                have o2 : (FloatKind.f64.format.order (mulR (rung m 0) (ten k)) 14054727237768577024 == some Ordering.lt) = false := o.2
                have HAE := Lib.hid hae
                clear hae
                go_enter Tryz.func133, Tryz.ntmps133
                go_wp2
                go_ret2
                rw [HAE.out]
                exact ⟨⟨_, rfl, fun r h => by cases h; exact (sg_false _).symm⟩, rfl⟩
            · have m1 : ∀ w, (binOp .mul 79 (.float .f64 (sg true (rung m 0))) (.float .f64 (ten k))).run Tryz.prog w = .ok (.float .f64 (sg true (mulR (rung m 0) (ten k)))) w := fun w => by
                have := run_mul Tryz.prog true (rung m 0) k hr1 hk23 w
                exact this
              have m2 : ∀ w, (binOp .mul 79 (.float .f64 (sg true (mulR (rung m 0) (ten k)))) (.float .f64 (ten 22))).run Tryz.prog w = .ok (.float .f64 (sg true (mulR (mulR (rung m 0) (ten k)) (ten 22)))) w := fun w => by
                have := run_mul Tryz.prog true (mulR (rung m 0) (ten k)) 22 h2' (by decide) w
                exact this
              have o := order15 true (mulR (rung m 0) (ten k)) h2'
              by_cases hb : big15 (mulR (rung m 0) (ten k)) = true
              · rw [hb] at o
                rw [if_pos hb] at hae
                have o1 : (FloatKind.f64.format.order (sg true (mulR (rung m 0) (ten k))) 4831355200913801216 == some Ordering.gt) = false := o.1
                have o2 : (FloatKind.f64.format.order (sg true (mulR (rung m 0) (ten k))) 14054727237768577024 == some Ordering.lt) = true := o.2
                have HAE := Lib.hid hae
                clear hae
                go_enter Tryz.func133, Tryz.ntmps133
                go_wp2
                go_ret2
                rw [HAE.out]
                exact ⟨⟨_, rfl, fun r h => by cases h⟩, rfl⟩
              · have hb : big15 (mulR (rung m 0) (ten k)) = false := by simpa using hb
                rw [hb] at o
                rw [if_neg (by rw [hb]; decide)] at hae
                have o1 : (FloatKind.f64.format.order (sg true (mulR (rung m 0) (ten k))) 4831355200913801216 == some Ordering.gt) = false := o.1
                have o2 : (FloatKind.f64.format.order (sg true (mulR (rung m 0) (ten k))) 14054727237768577024 == some Ordering.lt) = false := o.2
                have HAE := Lib.hid hae
                clear hae
                go_enter Tryz.func133, Tryz.ntmps133
                go_wp2
                go_ret2
                rw [HAE.out]
                exact ⟨⟨_, rfl, fun r h => by cases h; rfl⟩, rfl⟩
          · obtain ⟨k, rfl⟩ := Int.eq_ofNat_of_zero_le (show 0 ≤ e by omega)
            have hk23 : k < 23 := by omega
            have hk23' : (k : Int) < 23 := by omega
            have h22' : (k : Int) ≤ 22 := by omega
            have c1 := T2.out k hk23
            have hae : aeF m (k : Int) = if big15 (rung m 0) then none else some (mulR (rung m 0) (ten k)) := by
              unfold aeF
              rw [if_neg (by have := HM0.out; omega), if_neg (by omega), if_pos (by omega), if_neg h22, Int.toNat_natCast]
            clear h22
            cases ng
            · have m1 : ∀ w, (binOp .mul 79 (.float .f64 (rung m 0)) (.float .f64 (ten k))).run Tryz.prog w = .ok (.float .f64 ((mulR (rung m 0) (ten k)))) w := fun w => by
                have := run_mul Tryz.prog false (rung m 0) k hr1 hk23 w
                simpa only [sg_false] using this
              have o := order15 false (rung m 0) hr1
              rw [sg_false] at o
              by_cases hb : big15 (rung m 0) = true
              · rw [hb] at o
                rw [if_pos hb] at hae
                have o1 : (FloatKind.f64.format.order (rung m 0) 4831355200913801216 == some Ordering.gt) = true := o.1
                have o2 : (FloatKind.f64.format.order (rung m 0) 14054727237768577024 == some Ordering.lt) = false := o.2
                have HAE := Lib.hid hae
                clear hae
                go_enter Tryz.func133, Tryz.ntmps133
                go_wp2
                go_ret2
                rw [HAE.out]
                exact ⟨⟨_, rfl, fun r h => by cases h⟩, rfl⟩
              · have hb : big15 (rung m 0) = false := by simpa using hb
                rw [hb] at o
                rw [if_neg (by rw [hb]; decide)] at hae
                have o1 : (FloatKind.f64.format.order (rung m 0) 4831355200913801216 == some Ordering.gt) = false := o.1
                have o2 : (FloatKind.f64.format.order (rung m 0) 14054727237768577024 == some Ordering.lt) = false := o.2
                have HAE := Lib.hid hae
                clear hae
                go_enter Tryz.func133, Tryz.ntmps133
                go_wp2
                go_ret2
                rw [HAE.out]
                exact ⟨⟨_, rfl, fun r h => by cases h; exact (sg_false _).symm⟩, rfl⟩
            · have m1 : ∀ w, (binOp .mul 79 (.float .f64 (sg true (rung m 0))) (.float .f64 (ten k))).run Tryz.prog w = .ok (.float .f64 (sg true (mulR (rung m 0) (ten k)))) w := fun w => by
                have := run_mul Tryz.prog true (rung m 0) k hr1 hk23 w
                exact this
              have o := order15 true (rung m 0) hr1
              by_cases hb : big15 (rung m 0) = true
              · rw [hb] at o
                rw [if_pos hb] at hae
                have o1 : (FloatKind.f64.format.order (sg true (rung m 0)) 4831355200913801216 == some Ordering.gt) = false := o.1
                have o2 : (FloatKind.f64.format.order (sg true (rung m 0)) 14054727237768577024 == some Ordering.lt) = true := o.2
                have HAE := Lib.hid hae
                clear hae
                go_enter Tryz.func133, Tryz.ntmps133
                go_wp2
                go_ret2
                rw [HAE.out]
                exact ⟨⟨_, rfl, fun r h => by cases h⟩, rfl⟩
              · have hb : big15 (rung m 0) = false := by simpa using hb
                rw [hb] at o
                rw [if_neg (by rw [hb]; decide)] at hae
                have o1 : (FloatKind.f64.format.order (sg true (rung m 0)) 4831355200913801216 == some Ordering.gt) = false := o.1
                have o2 : (FloatKind.f64.format.order (sg true (rung m 0)) 14054727237768577024 == some Ordering.lt) = false := o.2
                have HAE := Lib.hid hae
                clear hae
                go_enter Tryz.func133, Tryz.ntmps133
                go_wp2
                go_ret2
                rw [HAE.out]
                exact ⟨⟨_, rfl, fun r h => by cases h; rfl⟩, rfl⟩
        · have h37' : 37 < e := by omega
          have hae : aeF m e = none := by unfold aeF; rw [if_neg (by have := HM0.out; omega), if_neg HZ.out, if_neg (by omega), if_neg (by omega)]
          have HAE := Lib.hid hae
          clear hae h37
          generalize rung m 0 = r0 at *
          cases ng
          · go_enter Tryz.func133, Tryz.ntmps133
            go_wp2
            go_ret2
            rw [HAE.out]
            exact ⟨⟨_, rfl, fun r h => by cases h⟩, rfl⟩
          · go_enter Tryz.func133, Tryz.ntmps133
            go_wp2
            go_ret2
            rw [HAE.out]
            exact ⟨⟨_, rfl, fun r h => by cases h⟩, rfl⟩
      · by_cases h22 : -22 ≤ e
        · obtain ⟨k, rfl⟩ : ∃ k : Nat, e = -(k : Int) := ⟨(-e).toNat, by omega⟩
          have hk23 : k < 23 := by omega
          have hk23' : (k : Int) < 23 := by omega
          have hkk : - -(k : Int) = k := by omega
          have hpos' : -(k : Int) ≤ 0 := by omega
          have hneg' : -(k : Int) < 0 := by have := HZ.out; omega
          have c1 := T2.out k hk23
          have hae : aeF m (-(k : Int)) = some (divR (rung m 0) (ten k)) := by
            unfold aeF
            rw [if_neg (by have := HM0.out; omega), if_neg HZ.out, if_neg (fun h => by have := h.1; omega), if_pos ⟨hneg', by omega⟩, hkk, Int.toNat_natCast]
          clear hpos
          cases ng
          · have d1 : ∀ w, (binOp .quo 79 (.float .f64 (rung m 0)) (.float .f64 (ten k))).run Tryz.prog w = .ok (.float .f64 ((divR (rung m 0) (ten k)))) w := fun w => by
              have := run_div Tryz.prog false (rung m 0) k hr1 hk23 w
              simpa only [sg_false] using this
            have HAE := Lib.hid hae
            clear hae
            go_enter Tryz.func133, Tryz.ntmps133
            go_wp2
            go_ret2
            rw [HAE.out]
            exact ⟨⟨_, rfl, fun r h => by cases h; exact (sg_false _).symm⟩, rfl⟩
          · have d1 : ∀ w, (binOp .quo 79 (.float .f64 (sg true (rung m 0))) (.float .f64 (ten k))).run Tryz.prog w = .ok (.float .f64 (sg true (divR (rung m 0) (ten k)))) w := fun w => by
              have := run_div Tryz.prog true (rung m 0) k hr1 hk23 w
              exact this
            have HAE := Lib.hid hae
            clear hae
            go_enter Tryz.func133, Tryz.ntmps133
            go_wp2
            go_ret2
            rw [HAE.out]
            exact ⟨⟨_, rfl, fun r h => by cases h; rfl⟩, rfl⟩
        · have h22' : e < -22 := by omega
          have hpos' : e ≤ 0 := by omega
          have hneg' : e < 0 := by omega
          have hae : aeF m e = none := by unfold aeF; rw [if_neg (by have := HM0.out; omega), if_neg HZ.out, if_neg (by omega), if_neg (by omega)]
          have HAE := Lib.hid hae
          clear hae h22 hpos
          generalize rung m 0 = r0 at *
          cases ng
          · go_enter Tryz.func133, Tryz.ntmps133
            go_wp2
            go_ret2
            rw [HAE.out]
            exact ⟨⟨_, rfl, fun r h => by cases h⟩, rfl⟩
          · go_enter Tryz.func133, Tryz.ntmps133
            go_wp2
            go_ret2
            rw [HAE.out]
            exact ⟨⟨_, rfl, fun r h => by cases h⟩, rfl⟩
  · have hm1 : (((m : Int) / 4503599627370496) != 0) = true := by simp; omega
    have hae : aeF m e = none := by unfold aeF; rw [if_pos hm0]
    have HAE := Lib.hid hae
    clear hae hm0
    go_enter Tryz.func133, Tryz.ntmps133
    go_wp2
    go_ret2
    rw [HAE.out]
    exact ⟨⟨_, rfl, fun r h => by cases h⟩, rfl⟩
end Go.Proofs.YthfjakbpeclfcaaGreatDoor
