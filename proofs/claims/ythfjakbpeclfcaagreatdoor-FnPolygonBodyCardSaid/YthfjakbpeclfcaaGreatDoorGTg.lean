/-
  The reference's tagged, ahead of POLYGON.
  The reference's ReadWKT of a polygon's text.
-/
import Derived.Test.YthfjakbpeclfcaaGreatDoorGBl
import Derived.Test.YthfjakbpeclfcaaGreatDoorGNe
namespace Go.Proofs.YthfjakbpeclfcaaGreatDoor
open Go.RowKit Go

theorem kn_eq : ∀ k : Fin 7, ((kn k.val).toList == (kn 3).toList) = decide (k.val = 3) := by decide +kernel
theorem up_poly : upS (kn 3) = kn 3 := by decide +kernel
theorem dn_ne {i j : Nat} (hi : i < 4) (hj : j < 4) (h : i ≠ j) : dn i ≠ dn j := by
  have : ∀ i : Fin 4, ∀ j : Fin 4, i ≠ j → dn i.val ≠ dn j.val := by decide
  exact this ⟨i, hi⟩ ⟨j, hj⟩ (fun e => h (by injection e))
/-- The tag and what stands behind it. -/
def tgl (d : Nat) (p : List (Nat × ByteArray)) : List (Nat × ByteArray) := if d = 0 then p else (97, dn d) :: p
set_option maxHeartbeats 4000000 in
set_option maxRecDepth 100000 in
theorem tg_run (B Q G X cp : Nat) (p : List (Nat × ByteArray)) (rd : ByteArray → Option Nat) (w : World) (d : Nat) (hd : d < 4) (h : RdS Q G X cp ((97, kn 3) :: tgl d p) ((97, kn 3) :: tgl d p) false w) (hN : NumP B w)
    (hT : ∀ t ∈ (97, kn 3) :: tgl d p, TkOk rd t) (hBQ : B ≤ Q) (hS : ∀ t ∈ (97, kn 3) :: tgl d p, t.2.size ≤ 50000) (hall : ((97, kn 3) :: tgl d p).length ≤ 100000) (hp : ∀ t q, p = t :: q → ∀ j, j < 4 → 1 ≤ j → t.2 ≠ dn j) :
    Calls Tryz.prog 19 #[.pointer (some ⟨Q, 0, none⟩)] w fun e w' => bpR Q G X cp w.heap.size ((97, kn 3) :: tgl d p) p false rd d e w' ∧ w.grownBy w' (some Q) := by
  have hw0 : RdS Q G X cp ((97, kn 3) :: tgl d p) ((97, kn 3) :: tgl d p) false (w.alloc (.cells #[.int .i64 0, .int .i64 0, .slice none 0 0, .slice none 0 0] 33)) := h.far ((Below.refl _ _).alloc (Nat.le_refl _) _)
  have hQw := h.lt
  have ht := rtake Q G X cp _ _ false 97 (by decide) _ hw0
  have hA := heap_alloc_new w (.cells #[.int .i64 0, .int .i64 0, .slice none 0 0, .slice none 0 0] 33)
  have hg0 : w.grownBy (w.alloc (.cells #[.int .i64 0, .int .i64 0, .slice none 0 0, .slice none 0 0] 33)) (some Q) := World.grownBy_alloc _ _ _
  generalize hal : (97, kn 3) :: tgl d p = all at *
  have HAL := Lib.hid hal
  have HN := Lib.hid hN
  have HT := Lib.hid hT
  have HS := Lib.hid hS
  have HP := Lib.hid hp
  have HA := Lib.hid hA
  have HG0 := Lib.hid hg0
  have H0 := Lib.hid h
  clear h hN hT hS hp hA hg0 hw0
  go_enter Tryz.func19, Tryz.ntmps19
  go_wp2_with fail
  refine ht.mono ?_
  rintro e w2 ⟨h2, hg2⟩
  have h2' : e = .returned (.string (kn 3)) ∧ RdS Q G X cp all (tgl d p) false w2 := by
    rw [← HAL.out] at h2 ⊢
    rcases h2 with ⟨-, -, h3, h4⟩ | ⟨h3, -⟩
    · exact ⟨h3, h4⟩
    · rcases h3 with h3 | h3
      · cases h3
      · exact absurd rfl h3
  obtain ⟨rfl, hr2⟩ := h2'
  have hup := up_any (kn 3) w2 (by decide)
  rw [up_poly] at hup
  have HG2 := Lib.hid (HG0.out.trans hg2)
  have HA2 := Lib.hid ((hg2.block _ (Lib.lt_of_heap HA.out) (fun e => by injection e with e; omega)).trans HA.out)
  have HR2 := Lib.hid hr2
  clear ht h2 hg2 hr2 hal
  go_wp2_with fail
  refine hup.mono ?_
  rintro e w3 ⟨rfl, hb3⟩
  have HG3 := Lib.hid (HG2.out.trans (below_grown hb3 _))
  have HA3 := Lib.hid (rb_far HA2.out hb3)
  have HR3 := Lib.hid (HR2.out.far hb3)
  clear hup hb3
  go_wp2
  go_loopg [4, 11] 7 (fun G' s4 s11 wr => ∃ k : Nat, s11 = .int .i64 k ∧ k + G' = 7 ∧ s4 = .int .i64 (if k ≤ 3 then -1 else 3) ∧ wr = w3)
  case atStart => exact ⟨0, rfl, rfl, rfl, rfl⟩
  case round =>
    obtain ⟨k, rfl, hk, rfl, rfl⟩ := hrel
    have HK := Lib.hid hk
    clear hk
    by_cases hlt : k < 7
    · have hlt' : (k : Int) < 7 := by omega
      have hkn := kn_any k hlt wr
      have heq := kn_eq ⟨k, hlt⟩
      by_cases h3 : k = 3
      · have heq' : ((kn k).toList == (kn 3).toList) = true := by rw [h3]; exact beq_self_eq_true _
        have HK3 := Lib.hid h3
        clear heq h3
        generalize kn k = knk at *
        generalize kn 3 = kn3 at *
        go_wp2_with (go_at_call 36; refine hkn.mono ?_; rintro e w' ⟨rfl, hw'⟩; have hw' := hw'.symm; subst hw')
        go_roundg (gk - 1)
        case measure => have := HK.out; omega
        case rel => exact ⟨k + 1, by go_num, by have := HK.out; omega, by rw [HK3.out]; rfl, rfl⟩
      · have heq' : ((kn k).toList == (kn 3).toList) = false := by rw [heq]; exact decide_eq_false h3
        have hif : (if k + 1 ≤ 3 then (-1 : Int) else 3) = if k ≤ 3 then -1 else 3 := by
          by_cases h4 : k ≤ 3
          · rw [if_pos h4, if_pos (by omega)]
          · rw [if_neg h4, if_neg (by omega)]
        have HIF := Lib.hid hif
        clear heq h3 hif
        generalize kn k = knk at *
        generalize kn 3 = kn3 at *
        generalize (if k ≤ 3 then (-1 : Int) else 3) = sv at *
        go_wp2_with (go_at_call 36; refine hkn.mono ?_; rintro e w' ⟨rfl, hw'⟩; have hw' := hw'.symm; subst hw')
        go_roundg (gk - 1)
        case measure => have := HK.out; omega
        case rel => exact ⟨k + 1, by go_num, by have := HK.out; omega, by rw [HIF.out], rfl⟩
    · have hlt' : ¬ (k : Int) < 7 := by omega
      obtain rfl : k = 7 := by have := HK.out; omega
      rw [show (if 7 ≤ 3 then (-1 : Int) else 3) = 3 from rfl]
      go_wp2
      go_loopg [6, 7] 4 (fun G' s6 s7 wx => ∃ (j dm : Nat) (r' : List (Nat × ByteArray)), s7 = .int .i64 j ∧ s6 = .int .i64 dm ∧ j + G' = 5 ∧ 1 ≤ j ∧ RdS Q G X cp all r' false wx ∧ w.grownBy wx (some Q) ∧ wx.heap[w.heap.size]? = some (.cells #[.int .i64 0, .int .i64 0, .slice none 0 0, .slice none 0 0] 33 (0, 0)) ∧
        (dm = 0 ∧ r' = tgl d p ∧ (d = 0 ∨ j ≤ d) ∨ 0 < d ∧ dm = d ∧ r' = p ∧ d < j))
      case atStart => exact ⟨1, 0, tgl d p, rfl, rfl, rfl, Nat.le_refl _, HR3.out, HG3.out, HA3.out, .inl ⟨rfl, rfl, by omega⟩⟩
      case round =>
        obtain ⟨j, dm, r', rfl, rfl, hj, hj1, hr', hg', hA', hor⟩ := hrel
        have HJ := Lib.hid hj
        have HR' := Lib.hid hr'
        have HG' := Lib.hid hg'
        have HA' := Lib.hid hA'
        have HOR := Lib.hid hor
        clear hj hr' hg' hA' hor
        by_cases hlt2 : j < 4
        · have hlt2' : (j : Int) < 4 := by omega
          have hdn := fun w => dn_any j hlt2 w
          have hjj : ∀ W W' e, wdR Q G X cp all r' false (dn j) e W W' → W.grownBy W' (some Q) → RdS Q G X cp all r' false W → dm = 0 →
              (∃ b r2 dm2, e = .returned (.bool b) ∧ dm2 = (if b then j else 0) ∧ RdS Q G X cp all r2 false W' ∧ (dm2 = 0 ∧ r2 = tgl d p ∧ (d = 0 ∨ j + 1 ≤ d) ∨ 0 < d ∧ dm2 = d ∧ r2 = p ∧ d < j + 1)) := by
            intro W W' e hw _ hrW hdm0
            rcases HOR.out with ⟨-, hr, hdj⟩ | ⟨h1, h2, -⟩
            · subst hr
              rcases hw with ⟨t, q, hq, -, -, htx, rfl, hr2⟩ | ⟨hno, rfl, rfl⟩
              · by_cases hd0 : d = 0
                · exfalso
                  rw [show tgl d p = p from if_pos hd0] at hq
                  exact HP.out t q hq j hlt2 hj1 htx
                · rw [show tgl d p = (97, dn d) :: p from if_neg hd0] at hq
                  injection hq with hq1 hq2
                  have hdj2 : d = j := by
                    by_cases e : d = j
                    · exact e
                    · exact absurd (by rw [← hq1] at htx; exact htx) (dn_ne hd hlt2 e)
                  exact ⟨true, q, j, rfl, rfl, hr2, .inr ⟨by omega, hdj2.symm, hq2.symm, by omega⟩⟩
              · refine ⟨false, tgl d p, 0, rfl, rfl, hrW, .inl ⟨rfl, rfl, ?_⟩⟩
                by_cases hd0 : d = 0
                · exact .inl hd0
                · right
                  have h1 : j ≠ d := by
                    intro e
                    refine hno (97, dn d) p (if_neg hd0) rfl rfl ?_
                    rw [e]
                  omega
            · omega
          have HJJ := Lib.hid hjj
          clear hjj
          by_cases hdm : dm = 0
          · have hdm' : ((dm : Int) == 0) = true := by simp; omega
            have HDM := Lib.hid hdm
            have hwd := rword Q G X cp all r' false (dn j) wr HR'.out
            clear hdm
            go_wp2_with (go_at_call 38; refine (hdn _).mono ?_; rintro e w' ⟨rfl, hw'⟩; have hw' := hw'.symm; subst hw')
            refine hwd.mono ?_
            rintro e w6 ⟨h6, hg6⟩
            obtain ⟨b, r2, dm2, rfl, hdm2, hr2, hor2⟩ := HJJ.out _ _ _ h6 hg6 HR'.out HDM.out
            have HR2' := Lib.hid hr2
            have HG6 := Lib.hid (HG'.out.trans hg6)
            have HA6 := Lib.hid ((hg6.block _ (Lib.lt_of_heap HA'.out) (fun e => by injection e with e; omega)).trans HA'.out)
            have HOR2 := Lib.hid hor2
            have HD2 := Lib.hid hdm2
            clear h6 hg6 hr2 hor2 hdm2 hwd
            cases b with
            | true =>
              go_wp2
              go_roundg (gk - 1)
              case measure => have := HJ.out; omega
              case rel => exact ⟨j + 1, j, r2, by go_num, rfl, by have := HJ.out; omega, by omega, HR2'.out, HG6.out, HA6.out, (by have h9 : dm2 = j := (by simpa using HD2.out); have h8 := HOR2.out; rw [h9] at h8; exact h8)⟩
            | false =>
              go_wp2
              go_roundg (gk - 1)
              case measure => have := HJ.out; omega
              case rel => exact ⟨j + 1, dm, r2, by go_num, rfl, by have := HJ.out; omega, by omega, HR2'.out, HG6.out, HA6.out, (by have h9 : dm2 = 0 := (by simpa using HD2.out); have h8 := HOR2.out; rw [h9] at h8; rw [HDM.out]; exact h8)⟩
          · have hdm' : ((dm : Int) == 0) = false := by simp; omega
            have hor2 : 0 < d ∧ dm = d ∧ r' = p ∧ d < j + 1 := by
              rcases HOR.out with ⟨h, -⟩ | ⟨h1, h2, h3, h4⟩
              · exact absurd h hdm
              · exact ⟨h1, h2, h3, by omega⟩
            have HOR2 := Lib.hid hor2
            clear hdm hor2
            go_wp2
            go_roundg (gk - 1)
            case measure => have := HJ.out; omega
            case rel => exact ⟨j + 1, dm, r', by go_num, rfl, by have := HJ.out; omega, by omega, HR'.out, HG'.out, HA'.out, .inr HOR2.out⟩
        · have hlt2' : ¬ (j : Int) < 4 := by omega
          obtain ⟨rfl, rfl⟩ : dm = d ∧ r' = p := by
            have h5 := HJ.out
            rcases HOR.out with ⟨h1, h2, h3⟩ | ⟨h1, h2, h3, h4⟩
            · have hd0 : d = 0 := by omega
              exact ⟨by omega, by rw [h2]; exact if_pos hd0⟩
            · exact ⟨h2, h3⟩
          have hbB : B ≤ w.heap.size := by omega
          have hbp := bp_any B Q G X cp all r' false rd wr dm hd HR'.out (HN.out.below (below_of HG'.out hBQ hbB)) HT.out hBQ HS.out hall
          go_wp2_with fail
          refine hbp.mono ?_
          rintro e w8 ⟨⟨v, L, r8, b8, rfl, k1, k2, k3, k4, k5⟩, hg8⟩
          have hA8 := (hg8.block _ (Lib.lt_of_heap HA'.out) (fun e => by injection e with e; omega)).trans HA'.out
          have hlt8 := Lib.lt_of_heap HA'.out
          obtain ⟨av, cv, hv⟩ := ownsRow_slice k1.own
          generalize hLL : L.length = ll at hv
          subst hv
          obtain ⟨b0, b1, b2, b3⟩ := cell_four hA8
          have z1 := Lib.frozen_of_heap hA8
          have HA8 := Lib.hid hA8
          have HG8 := Lib.hid (HG'.out.trans hg8)
          have K1 := Lib.hid k1
          have K2 := Lib.hid k2
          have K3 := Lib.hid k3
          have K4 := Lib.hid k4
          have K5 := Lib.hid k5
          clear hbp hA8 hg8 k1 k2 k3 k4 k5 hLL
          go_wp2
          refine bodyPost_ret (res_cell rfl _ _ w.heap.size 33 #[_, _, _, _] (0, 0) _ rfl (f4_heap HA8.out) Tryz.underlying33 (by kernel_rfl)) rfl ?_
          refine ⟨⟨_, L, r8, b8, rfl, ?_, K2.out, K3.out, f4_rds HA8.out K4.out (by decide) (by decide), K5.out⟩, grown_new HG8.out f4_grown (Nat.le_refl _)⟩
          exact ((((K1.out.setB (g := w.heap.size) hlt8 _).setB hlt8 _).setB hlt8 _).setB hlt8 _).mono (by omega)
end Go.Proofs.YthfjakbpeclfcaaGreatDoor

namespace Go.Proofs.YthfjakbpeclfcaaGreatDoor
open Go.RowKit Go

/-- What ReadWKT yields of a polygon's body. -/
def rwOut (Y : Nat) (rd : ByteArray → Option Nat) (d : Nat) (l : List ByteArray) (e : Ending) (w' : World) : Prop :=
  (∃ ao c v L, e = .returned (.tuple #[.agg #[.int .i64 3, .int .i64 d, .slice ao 0 c, v], .bool true]) ∧ Kds Y d w' v L ∧ npoly rd (dimW d) l = some (L.map (·.2), [])) ∨
  ((∀ xss, npoly rd (dimW d) l ≠ some (xss, [])) ∧ e = .returned (.tuple #[.agg #[.int .i64 0, .int .i64 0, .slice none 0 0, .slice none 0 0], .bool false]))
set_option maxHeartbeats 4000000 in
set_option maxRecDepth 100000 in
theorem rw_any (B : Nat) (S : ByteArray) (p : List (Nat × ByteArray)) (rd : ByteArray → Option Nat) (w : World) (d : Nat) (hd : d < 4) (hrt : rtk S.size false S.data.toList = some ((97, kn 3) :: tgl d p)) (hsz : S.size ≤ 100000) (hN : NumP B w)
    (hT : ∀ t ∈ (97, kn 3) :: tgl d p, TkOk rd t) (hS : ∀ t ∈ (97, kn 3) :: tgl d p, t.2.size ≤ 50000) (hall : ((97, kn 3) :: tgl d p).length ≤ 100000) (hp : ∀ t q, p = t :: q → ∀ j, j < 4 → 1 ≤ j → t.2 ≠ dn j) :
    Calls Tryz.prog 8 #[.string S] w fun e w' => rwOut w.heap.size rd d (txs p) e w' ∧ Below w.heap.size w w' := by
  have htk := tok_any S (w.alloc (.cells #[.int .i64 0, .int .i64 0, .slice none 0 0, .slice none 0 0] 33)) hsz
  have hA := heap_alloc_new w (.cells #[.int .i64 0, .int .i64 0, .slice none 0 0, .slice none 0 0] 33)
  have hb0 : Below w.heap.size w (w.alloc (.cells #[.int .i64 0, .int .i64 0, .slice none 0 0, .slice none 0 0] 33)) := (Below.refl _ _).alloc (Nat.le_refl _) _
  have HRT := Lib.hid hrt
  have HN := Lib.hid hN
  have HT := Lib.hid hT
  have HS := Lib.hid hS
  have HP := Lib.hid hp
  have HA := Lib.hid hA
  have HB0 := Lib.hid hb0
  clear hrt hN hT hS hp hA hb0
  go_enter Tryz.func8, Tryz.ntmps8
  go_wp2_with fail
  refine htk.mono ?_
  rintro e w2 ⟨h2, hb2⟩
  unfold tkOut at h2
  rw [HRT.out] at h2
  obtain ⟨v2, rfl, hown, -⟩ := h2
  obtain ⟨G, cp, rfl, -, -⟩ := hown.form (by simp)
  have HOW := Lib.hid hown
  have HB2 := Lib.hid (HB0.out.trans (below_far hb2 HB0.out.size))
  have HA2 := Lib.hid (rb_far HA.out hb2)
  have hrs : RdS w2.heap.size G (w.alloc (.cells #[.int .i64 0, .int .i64 0, .slice none 0 0, .slice none 0 0] 33)).heap.size cp ((97, kn 3) :: tgl d p) ((97, kn 3) :: tgl d p) false
      (w2.alloc (.cells #[.slice (some ⟨G, 0, none⟩) ((97, kn 3) :: tgl d p).length cp, .bool false] 54)) := by
    refine ⟨⟨[], rfl⟩, ⟨some ⟨G, 0, none⟩, cp, heap_alloc_new _ _, own_cap hown, fun _ => by rw [Nat.sub_self, Nat.zero_mul]⟩, hown.alloc _⟩
  have hbq : B ≤ w2.heap.size := Nat.le_trans HN.out.num.hs HB2.out.size
  have hbx : Below w.heap.size w (w2.alloc (.cells #[.slice (some ⟨G, 0, none⟩) ((97, kn 3) :: tgl d p).length cp, .bool false] 54)) := HB2.out.alloc HB2.out.size _
  have htg := tg_run B w2.heap.size G _ cp p rd _ d hd hrs (HN.out.below ⟨hbx.os, hbx.tape, hbx.output, hbx.size, fun k hk => hbx.block k (Nat.lt_of_lt_of_le hk HN.out.num.hs)⟩) HT.out hbq HS.out hall HP.out
  have hA3 := (Below.heap_alloc w2 (.cells #[.slice (some ⟨G, 0, none⟩) ((97, kn 3) :: tgl d p).length cp, .bool false] 54) _ (Lib.lt_of_heap HA2.out)).trans HA2.out
  have HA3 := Lib.hid hA3
  have HBX := Lib.hid hbx
  have hlt2 := Lib.lt_of_heap HA2.out
  clear htk hown hb2 hrs hbx hA3
  have HALL := Lib.hid hall
  clear hall
  generalize hnn : ((97, kn 3) :: tgl d p).length = nn at *
  have HNN := Lib.hid hnn
  clear hnn
  go_wp2_with fail
  refine htg.mono ?_
  rintro e w4 ⟨⟨v4, L, r4, b4, rfl, k1, k2, k3, k4, k5⟩, hg4⟩
  obtain ⟨av, cv, hv⟩ := ownsRow_slice k1.own
  have hLl : L.length ≤ 500000 := by
    have h1 : p.length ≤ nn := by rw [← HNN.out]; unfold tgl; split <;> simp <;> omega
    have := HALL.out
    omega
  have hne := ne_poly _ w4 d hd av L.length cv L rfl (by have := k1; rw [hv] at this; exact this) (fun q hq => ⟨(k2 q hq).1, by have := (k2 q hq).2.1; have := HALL.out; rw [HNN.out] at *; omega, (k2 q hq).2.2⟩) hLl
  generalize L.length = ll at *
  subst hv
  have HA4 := Lib.hid ((hg4.block _ (Lib.lt_of_heap HA3.out) (fun e => by injection e with e; omega)).trans HA3.out)
  have HB4 := Lib.hid (HBX.out.grown hg4 HBX.out.size (fun k e => by injection e with e; omega))
  have K4 := Lib.hid k4
  have K5 := Lib.hid k5
  clear htg k1 k2 k3 k4 k5 hg4
  go_wp2_with fail
  refine hne.mono ?_
  rintro e w5 ⟨⟨ao5, c5, v5, L5, rfl, m1, m2⟩, hb5⟩
  obtain ⟨av5, cv5, hv5⟩ := ownsRow_slice m1.own
  generalize L5.length = l5 at hv5
  subst hv5
  have hA5 := rb_far HA4.out hb5
  have HK5 := Lib.hid m1
  have hlt4 := Lib.lt_of_heap HA4.out
  have HM5 := Lib.hid m2
  have HB5 := Lib.hid (HB4.out.trans (below_far hb5 HB4.out.size))
  obtain ⟨aq, cq, hq1, -, -⟩ := (K4.out.far hb5).q
  obtain ⟨x0, x1⟩ := cell_two hq1
  obtain ⟨a0, a1, a2, a3⟩ := cell_four hA5
  have z := Lib.frozen_of_heap hA5
  have hQ1 : w.heap.size ≠ w2.heap.size := by omega
  have hQ2 : w2.heap.size ≠ w.heap.size := by omega
  have HA5 := Lib.hid hA5
  have hbf : ∀ W, w5.grownBy W (some w.heap.size) → Below w.heap.size w W := fun W hg => HB5.out.grown hg HB5.out.size (fun k e => by injection e with e; omega)
  have HBF := Lib.hid hbf
  clear hne m1 m2 hb5 hq1 hA5 hbf
  cases b4 with
  | true =>
    have hno : ∀ xss, npoly rd (dimW d) (txs p) ≠ some (xss, []) := by
      intro xss e
      have := K5.out
      rw [if_neg (by decide), if_pos rfl, e] at this
      cases this
    have HNO := Lib.hid hno
    clear hno
    go_wp2
    refine bodyPost_ret (res_cell2 rfl _ _ w.heap.size 33 #[.int .i64 0, .int .i64 0, .slice none 0 0, .slice none 0 0] (0, 0) _ rfl (f4_heap (f4_heap HA5.out)) Tryz.underlying33 (by kernel_rfl)) rfl ?_
    exact ⟨.inr ⟨HNO.out, rfl⟩, HBF.out _ (f4_grown.trans f4_grown)⟩
  | false =>
    have hk := K5.out
    rw [if_neg (by decide), if_neg (by decide)] at hk
    by_cases hr : r4 = []
    · subst hr
      have HKK := Lib.hid hk
      clear hk
      go_wp2
      refine bodyPost_ret (res_cell2 rfl _ _ w.heap.size 33 #[_, _, _, _] (0, 0) _ rfl (f4_heap (f4_heap HA5.out)) Tryz.underlying33 (by kernel_rfl)) rfl ?_
      refine ⟨.inl ⟨ao5, c5, _, L5, rfl, ?_, by rw [HKK.out, HM5.out]; rfl⟩, HBF.out _ (f4_grown.trans f4_grown)⟩
      exact ((((((((HK5.out.setB (g := w.heap.size) hlt4 _).setB hlt4 _).setB hlt4 _).setB hlt4 _).setB (g := w.heap.size) hlt4 _).setB hlt4 _).setB hlt4 _).setB hlt4 _).mono (by omega)
    · have hlen : (0 : Int) < (r4.length : Int) := by
        have := List.length_pos_iff.2 hr
        omega
      have hno : ∀ xss, npoly rd (dimW d) (txs p) ≠ some (xss, []) := by
        intro xss e
        rw [hk] at e
        injection e with e
        injection e with _ e
        exact hr (List.map_eq_nil_iff.1 e)
      have HNO := Lib.hid hno
      clear hno hk hr
      go_wp2
      refine bodyPost_ret (res_cell2 rfl _ _ w.heap.size 33 #[.int .i64 0, .int .i64 0, .slice none 0 0, .slice none 0 0] (0, 0) _ rfl (f4_heap (f4_heap HA5.out)) Tryz.underlying33 (by kernel_rfl)) rfl ?_
      exact ⟨.inr ⟨HNO.out, rfl⟩, HBF.out _ (f4_grown.trans f4_grown)⟩
end Go.Proofs.YthfjakbpeclfcaaGreatDoor
