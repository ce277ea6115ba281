/-
  The reference's place.
  A Geom in a block of its own; the body's helpers.
-/
import Derived.Test.YthfjakbpeclfcaaGreatDoorGRr
namespace Go.Proofs.YthfjakbpeclfcaaGreatDoor
open Go.RowKit Go

theorem wid_dim (d : Nat) : wid d = dimW d := rfl
def txs (r : List (Nat × ByteArray)) : List ByteArray := r.map (·.2)
section
variable {Q G X cp Y B : Nat} {all r q : List (Nat × ByteArray)} {t : Nat × ByteArray} {bad : Bool} {w w' w2 : World}
theorem RdS.ltG (h : RdS Q G X cp all r bad w) : G < w.heap.size := by
  rcases h.g.2 with ⟨h, -⟩ | ⟨g, cap, cur, h, -, h2, -⟩
  · cases h
  · injection h with h
    injection h with h
    injection h with h
    subst h
    exact Lib.lt_of_heap h2
theorem RdS.below (h : RdS Q G X cp all r bad w) (hb : Below Y w w') (hQ : Q < Y) (hG : G < Y) : RdS Q G X cp all r bad w' := by
  obtain ⟨ao, c, h1, h2⟩ := h.q
  refine ⟨h.pre, ⟨ao, c, (hb.block Q hQ).trans h1, h2⟩, ?_⟩
  rcases h.g.2 with ⟨h3, -⟩ | ⟨g, cap, cur, h3, h4, h5, h6⟩
  · cases h3
  · have hg : g = G := by
      injection h3 with h3
      injection h3 with h3
      injection h3 with h3
      exact h3.symm
    exact ⟨h.g.1, .inr ⟨g, cap, cur, h3, h4, (hb.block g (by rw [hg]; exact hG)).trans h5, h6⟩⟩
theorem below_of (hg : w.grownBy w' (some Q)) (hB : B ≤ Q) (hs : B ≤ w.heap.size) : Below B w w' := (Below.refl B w).grown hg hs (fun k e => by injection e with e; omega)
theorem RdS.mem (h : RdS Q G X cp all r bad w) : ∀ t ∈ r, t ∈ all := by
  obtain ⟨pre, e⟩ := h.pre
  intro t ht
  rw [e]
  simp [ht]
end
theorem nnum_succ (rd : ByteArray → Option Nat) (k : Nat) (l : List ByteArray) : nnum rd (k + 1) l = match nlit rd l with
    | none => none
    | some (x, r) => match nnum rd k r with
      | none => none
      | some (xs, r') => some (x :: xs, r') := rfl
theorem step_rel {rd : ByteArray → Option Nat} {N : Option (List Nat × List ByteArray)} {k : Nat} {ys : List Nat} {l l2 : List ByteArray} {f : Nat} {b b2 : Bool}
    (h : N = if b then none else (match nnum rd (k + 1) l with | none => none | some (zs, q) => some (ys ++ zs, q)))
    (h2 : (if b then none else nlit rd l) = if b2 then none else some (f, l2)) :
    N = if b2 then none else (match nnum rd k l2 with | none => none | some (zs, q) => some ((ys ++ [f]) ++ zs, q)) := by
  cases b with
  | true =>
    cases b2 with
    | true => exact h
    | false => cases h2
  | false =>
    rw [h, nnum_succ]
    simp only [Bool.false_eq_true, if_false] at h2 ⊢
    rw [h2]
    cases b2 with
    | true => rfl
    | false =>
      simp only [Bool.false_eq_true, if_false]
      cases nnum rd k l2 with
      | none => rfl
      | some z => simp
def plR (Q G X cp Y : Nat) (all r : List (Nat × ByteArray)) (bad : Bool) (rd : ByteArray → Option Nat) (D : Nat) (e : Ending) (w' : World) : Prop :=
  ∃ v ys r' b, e = .returned v ∧ w'.ownsRow Y 79 1 v D (fl ys) ∧ ys.length = D ∧ RdS Q G X cp all r' b w' ∧ (if bad then none else nnum rd D (txs r)) = if b then none else some (ys, txs r')
theorem nlit_n0 {rd : ByteArray → Option Nat} : nlit rd [] = none := rfl

theorem own_keep {w w' : World} {Y Q e size n : Nat} {v : Value} {xs : List Value} (h : w.ownsRow Y e size v n xs) (hg : w.grownBy w' (some Q)) (hQ : Q < Y) : w'.ownsRow Y e size v n xs := by
  refine h.kept hg (Or.inr ?_)
  intro ek
  have := (h.lt Q ek).1
  omega
theorem RdS.grownY {Q G X cp Y : Nat} {all r : List (Nat × ByteArray)} {bad : Bool} {w w' : World} {e size n : Nat} {v : Value} {xs : List Value} {o : Obj} (h : RdS Q G X cp all r bad w) (ho : w.ownsRow Y e size v n xs) (hg : (w.alloc o).grownBy w' v.ownBlock) (hQ : Q < Y) (hG : G < Y) (hY : Y ≤ w.heap.size) :
    RdS Q G X cp all r bad w' ∧ Below Y w w' := by
  have hb : Below Y w w' := ((Below.refl Y w).alloc hY o).grown hg (by simp; omega) (fun k e => (ho.lt k e).1)
  exact ⟨h.below hb hQ hG, hb⟩
set_option maxHeartbeats 8000000 in
set_option maxRecDepth 100000 in
theorem place_any (B Q G X cp : Nat) (all r : List (Nat × ByteArray)) (bad : Bool) (rd : ByteArray → Option Nat) (w : World) (d : Nat) (hd : d < 4) (h : RdS Q G X cp all r bad w) (hN : NumP B w) (hT : ∀ t ∈ all, TkOk rd t)
    (hBQ : B ≤ Q) (hS : ∀ t ∈ all, t.2.size ≤ 50000) :
    Calls Tryz.prog 51 #[.pointer (some ⟨Q, 0, none⟩), .int .i64 d] w fun e w' => plR Q G X cp w.heap.size all r bad rd (dimW d) e w' ∧ w.grownBy w' (some Q) := by
  obtain ⟨i0, hi, hz0, hz1, hz2⟩ := info_parts inf79
  have hw := wid_any d hd w
  rw [wid_dim] at hw
  have hD : dimW d ≤ 4 := by unfold dimW; split; omega; split <;> omega
  obtain ⟨D, hDD⟩ : ∃ D, D = dimW d := ⟨_, rfl⟩
  rw [← hDD] at hw hD ⊢
  obtain ⟨Y, hY⟩ : ∃ Y, Y = w.heap.size := ⟨_, rfl⟩
  have hQY : Q < Y := by rw [hY]; exact h.lt
  have hGY : G < Y := by rw [hY]; exact h.ltG
  rw [← hY]
  have HY := Lib.hid hY
  have H := Lib.hid h
  have HN := Lib.hid hN
  have HT := Lib.hid hT
  have HS := Lib.hid hS
  clear h hN hT hDD hY hS
  go_enter Tryz.func51, Tryz.ntmps51
  go_wp2_with fail
  refine hw.mono ?_
  rintro e w' ⟨rfl, hw'⟩
  have hw' := hw'.symm
  subst hw'
  go_wp2
  go_loopg [5, 11] D (fun G' s5 s11 wr => ∃ (k : Nat) (ys : List Nat) (r' : List (Nat × ByteArray)) (b : Bool), s11 = .int .i64 k ∧ G' = D - k ∧ k ≤ D ∧ ys.length = k ∧ wr.ownsRow Y 79 1 s5 k (fl ys) ∧ RdS Q G X cp all r' b wr ∧ w.grownBy wr (some Q) ∧
    ((if bad then none else nnum rd D (txs r)) = if b then none else (match nnum rd (D - k) (txs r') with | none => none | some (zs, q) => some (ys ++ zs, q))))
  case atStart =>
    refine ⟨0, [], r, bad, rfl, rfl, Nat.zero_le _, rfl, World.ownsRow_nil _ _ _ _, H.out, World.grownBy.refl _ _, ?_⟩
    rw [Nat.sub_zero]
    cases bad with
    | true => rfl
    | false =>
      show nnum rd D (txs r) = (match nnum rd D (txs r) with | none => none | some (zs, q) => some ([] ++ zs, q))
      cases nnum rd D (txs r) <;> rfl
  case round =>
    obtain ⟨k, ys, r', b, rfl, hG, hk, hys, hown, hrs, hgr, hrel⟩ := hrel
    have hBw : B ≤ w.heap.size := by have := HY.out; omega
    have HN0 := HN.out.below (below_of hgr hBQ hBw)
    have hBr : B ≤ wr.heap.size := Nat.le_trans hBw hgr.size
    obtain ⟨W0, hW0⟩ : ∃ W0, W0 = wr := ⟨_, rfl⟩
    rw [← hW0] at hown hgr HN0 hBr
    have HW0 := Lib.hid hW0
    have HN0 := Lib.hid HN0
    have HG := Lib.hid hG
    have HYS := Lib.hid hys
    have HOW := Lib.hid hown
    have HRS := Lib.hid hrs
    have HGR := Lib.hid hgr
    have HREL := Lib.hid hrel
    clear hG hys hown hrs hgr hrel hW0
    by_cases hkD : k < D
    · have hkD' : (k : Int) < D := by omega
      have hn := rnext Q G X cp all r' b wr HRS.out
      go_upto_region 5 with fail
      go_cut [15] (fun s15 wx => s15 = .bool (decide (nk r' b = 45)) ∧ wx = wr)
      case first =>
        go_wp2_with fail
        refine hn.mono ?_
        rintro e w' ⟨rfl, hw'⟩
        have hw' := hw'.symm
        subst hw'
        by_cases h45 : nk r' b = 45
        · have hb : ((nk r' b : Int) == 45) = true := by simp; omega
          have HK := Lib.hid h45
          clear h45
          go_wp2
          go_meet
          exact ⟨by rw [decide_eq_true HK.out], rfl⟩
        · have hb : ((nk r' b : Int) == 45) = false := by simp; omega
          have HK := Lib.hid h45
          clear h45
          go_wp2
          go_meet
          exact ⟨by rw [decide_eq_false HK.out], rfl⟩
      case rest =>
        obtain ⟨rfl, rfl⟩ := hcut
        clear hn
        go_upto_if 15 with fail
        go_cut [6] (fun s6 wx => ∃ (ng : Bool) (r1 : List (Nat × ByteArray)), s6 = .string (if ng then tMN else ByteArray.empty) ∧ RdS Q G X cp all r1 b wx ∧ W0.grownBy wx (some Q) ∧
          (ng = true → b = false ∧ txs r' = tMN :: txs r1) ∧ (ng = false → r1 = r' ∧ ¬ nk r' b = 45))
        case first =>
          by_cases h45 : nk r' b = 45
          · rw [decide_eq_true h45]
            have ht := rtake Q G X cp all r' b 45 (by decide) wc HRS.out
            have HK := Lib.hid h45
            clear h45
            go_wp2_with fail
            refine ht.mono ?_
            rintro e w2 ⟨h2, hg2⟩
            cases r' with
            | nil => exact absurd (show 0 = 45 from HK.out) (by decide)
            | cons t q =>
              obtain rfl : b = false := by
                cases b with
                | false => rfl
                | true => exact absurd (show 0 = 45 from HK.out) (by decide)
              have h1 : t.1 = 45 := HK.out
              rcases h2 with ⟨-, -, rfl, hr2⟩ | ⟨h2, -⟩
              · have HR2 := Lib.hid hr2
                have HG2 := Lib.hid (show W0.grownBy w2 (some Q) by rw [HW0.out]; exact hg2)
                have h2m : t.2 = tMN := (HT.out t (HRS.out.mem t (by simp))).k45.1 h1
                have HM := Lib.hid h2m
                clear hr2 hg2 ht h1 h2m
                go_wp2
                go_meet
                exact ⟨true, q, by rw [HM.out]; rfl, HR2.out, HG2.out, fun _ => ⟨by trivial, by show t.2 :: txs q = _; rw [HM.out]⟩, fun h => by cases h⟩
              · exfalso
                rcases h2 with h2 | h2
                · cases h2
                · exact h2 h1
          · rw [decide_eq_false h45]
            have HK := Lib.hid h45
            clear h45
            go_wp2
            go_meet
            exact ⟨false, r', rfl, HRS.out, (by rw [HW0.out]; exact World.grownBy.refl _ _), fun h => (by cases h), fun _ => ⟨rfl, HK.out⟩⟩
        case rest =>
          obtain ⟨ng, r1, rfl, hr1, hg1, hng, hng2⟩ := hcut
          have HR1 := Lib.hid hr1
          have HG1 := Lib.hid hg1
          have HNG := Lib.hid hng
          have HNG2 := Lib.hid hng2
          clear hr1 hg1 hng hng2
          have ht := rtake Q G X cp all r1 b 49 (by decide) wc HR1.out
          go_upto_region 7 with fail
          go_cut [6, 7, 8] (fun _ s7 s8 wx => ∃ (f : Nat) (ok : Bool) (r2 : List (Nat × ByteArray)) (b2 : Bool), s7 = .float .f64 f ∧ s8 = .bool ok ∧ RdS Q G X cp all r2 b2 wx ∧ W0.grownBy wx (some Q) ∧
            ((if b then none else nlit rd (txs r')) = if (b2 || !ok) then none else some (f, txs r2)))
          case first =>
            have hms : tMN.size = 1 := rfl
            have hes : ByteArray.empty.size = 0 := rfl
            cases ng with
            | true =>
              obtain ⟨rfl, hm⟩ := HNG.out rfl
              have HM := Lib.hid hm
              clear hm HNG HNG2
              go_wp2_with fail
              refine ht.mono ?_
              rintro e w2 ⟨h2, hg2⟩
              have HG2 := Lib.hid (HG1.out.trans hg2)
              have hN2 := HN0.out.below (below_of HG2.out hBQ hBr)
              clear ht hg2
              cases r1 with
              | nil =>
                obtain ⟨rfl, hr2⟩ := h2
                have HR2 := Lib.hid hr2
                have hb := bad_minus (tMN ++ ByteArray.empty) rfl
                have hrn := rn_bad B w2 _ hb hN2 (by decide)
                have hnl : nlit rd (txs r') = none := by rw [HM.out]; rfl
                have HNL := Lib.hid hnl
                clear hr2 hb hnl
                go_wp2_with fail
                refine hrn.mono ?_
                rintro e w3 ⟨⟨f, ok, he⟩, hb3⟩
                obtain rfl : e = .returned (.tuple #[.float .f64 f, .bool ok]) := he
                have HR3 := Lib.hid (HR2.out.far hb3)
                have HG3 := Lib.hid (HG2.out.trans (below_grown hb3 _))
                clear hrn hb3
                go_wp2
                go_meet
                exact ⟨f, ok, [], true, rfl, rfl, HR3.out, HG3.out, HNL.out⟩
              | cons t q =>
                have htk := HT.out t (HR1.out.mem t (by simp))
                have hsz := HS.out t (HR1.out.mem t (by simp))
                rcases h2 with ⟨-, h49, rfl, hr2⟩ | ⟨hno, rfl, hr2⟩
                · obtain ⟨M, E, x, e1, e2, e3, e4, e5⟩ := htk.nm h49
                  have HR2 := Lib.hid hr2
                  have hrn := rn_num B w2 (tMN ++ t.2) true M E x hN2 (by rw [if_pos rfl, ← e1]; simp [tMN]) e2 e3 e4 (by rw [ByteArray.size_append]; omega)
                  have hnl : nlit rd (txs r') = (rd t.2).map fun x => (sg true x, txs q) := by rw [HM.out]; exact nlit_m rfl
                  have HNL := Lib.hid hnl
                  clear hr2 hnl e1 e2 e3 e4 htk
                  go_wp2_with fail
                  refine hrn.mono ?_
                  rintro e w3 ⟨he, hb3⟩
                  have HR3 := Lib.hid (HR2.out.far hb3)
                  have HG3 := Lib.hid (HG2.out.trans (below_grown hb3 _))
                  clear hrn hb3
                  rcases he with ⟨hv, he⟩ | ⟨hv, f, he⟩
                  · have he2 : rd t.2 = some (atV M x).1 := by
                      rcases e5 with ⟨-, h⟩ | ⟨h, -⟩
                      · exact h
                      · rw [hv] at h; cases h
                    have HE := Lib.hid he2
                    obtain rfl : e = .returned (.tuple #[.float .f64 _, .bool true]) := he
                    clear e5 hv he2
                    go_wp2
                    go_meet
                    exact ⟨_, true, q, false, rfl, rfl, HR3.out, HG3.out, HNL.out.trans (by rw [HE.out]; rfl)⟩
                  · have he2 : rd t.2 = none := by
                      rcases e5 with ⟨h, -⟩ | ⟨-, h⟩
                      · rw [hv] at h; cases h
                      · exact h
                    have HE := Lib.hid he2
                    obtain rfl : e = .returned (.tuple #[.float .f64 f, .bool false]) := he
                    clear e5 hv he2
                    go_wp2
                    go_meet
                    exact ⟨f, false, q, false, rfl, rfl, HR3.out, HG3.out, HNL.out.trans (by rw [HE.out]; rfl)⟩
                · have hno' : t.1 ≠ 49 := by
                    rcases hno with h | h
                    · cases h
                    · exact h
                  have HR2 := Lib.hid hr2
                  have hb := bad_minus (tMN ++ ByteArray.empty) rfl
                  have hrn := rn_bad B w2 _ hb hN2 (by decide)
                  have hnl : nlit rd (txs r') = none := by
                    rw [HM.out]
                    show nlit rd (tMN :: t.2 :: txs q) = _
                    rw [nlit_m rfl, htk.nn hno']
                    rfl
                  have HNL := Lib.hid hnl
                  clear hr2 hb hnl hno hno' htk
                  go_wp2_with fail
                  refine hrn.mono ?_
                  rintro e w3 ⟨⟨f, ok, he⟩, hb3⟩
                  obtain rfl : e = .returned (.tuple #[.float .f64 f, .bool ok]) := he
                  have HR3 := Lib.hid (HR2.out.far hb3)
                  have HG3 := Lib.hid (HG2.out.trans (below_grown hb3 _))
                  clear hrn hb3
                  go_wp2
                  go_meet
                  exact ⟨f, ok, t :: q, true, rfl, rfl, HR3.out, HG3.out, HNL.out⟩
            | false =>
              obtain ⟨rfl, hn45⟩ := HNG2.out rfl
              clear HNG HNG2
              go_wp2_with fail
              refine ht.mono ?_
              rintro e w2 ⟨h2, hg2⟩
              have HG2 := Lib.hid (HG1.out.trans hg2)
              have hN2 := HN0.out.below (below_of HG2.out hBQ hBr)
              clear ht hg2
              have hfn : ∀ l : Option (Nat × List ByteArray), (b = true ∨ l = none) → (if b = true then none else l) = none := by
                intro l hl
                cases b with
                | true => rfl
                | false =>
                  rcases hl with hl | hl
                  · cases hl
                  · exact hl
              cases r1 with
              | nil =>
                obtain ⟨rfl, hr2⟩ := h2
                have HR2 := Lib.hid hr2
                have hrn := rn_bad B w2 (ByteArray.empty ++ ByteArray.empty) (by rw [show ByteArray.empty ++ ByteArray.empty = ByteArray.empty from rfl]; exact bad_empty) hN2 (by decide)
                have hnl := hfn (nlit rd (txs [])) (.inr rfl)
                have HNL := Lib.hid hnl
                clear hr2 hnl hfn hn45
                go_wp2_with fail
                refine hrn.mono ?_
                rintro e w3 ⟨⟨f, ok, he⟩, hb3⟩
                obtain rfl : e = .returned (.tuple #[.float .f64 f, .bool ok]) := he
                have HR3 := Lib.hid (HR2.out.far hb3)
                have HG3 := Lib.hid (HG2.out.trans (below_grown hb3 _))
                clear hrn hb3
                go_wp2
                go_meet
                exact ⟨f, ok, [], true, rfl, rfl, HR3.out, HG3.out, HNL.out⟩
              | cons t q =>
                have htk := HT.out t (HR1.out.mem t (by simp))
                have hsz := HS.out t (HR1.out.mem t (by simp))
                rcases h2 with ⟨hbf, h49, rfl, hr2⟩ | ⟨hno, rfl, hr2⟩
                · subst hbf
                  obtain ⟨M, E, x, e1, e2, e3, e4, e5⟩ := htk.nm h49
                  have HR2 := Lib.hid hr2
                  have hrn := rn_num B w2 (ByteArray.empty ++ t.2) false M E x hN2 (by rw [← e1]; simp) e2 e3 e4 (by rw [ByteArray.size_append]; omega)
                  have hnl : nlit rd (txs (t :: q)) = (rd t.2).map fun x => (sg false x, txs q) := by
                    have h1 : nlit rd (t.2 :: txs q) = (rd t.2).map fun x => (x, txs q) := nlit_p (fun e => by have := htk.k45.2 e; omega)
                    show nlit rd (t.2 :: txs q) = _
                    have e : (fun x : Nat => (x, txs q)) = fun x => (sg false x, txs q) := by
                      funext x
                      rw [sg_false]
                    rw [h1, e]
                  have HNL := Lib.hid hnl
                  clear hr2 hnl e1 e2 e3 e4 htk hfn hn45
                  go_wp2_with fail
                  refine hrn.mono ?_
                  rintro e w3 ⟨he, hb3⟩
                  have HR3 := Lib.hid (HR2.out.far hb3)
                  have HG3 := Lib.hid (HG2.out.trans (below_grown hb3 _))
                  clear hrn hb3
                  rcases he with ⟨hv, he⟩ | ⟨hv, f, he⟩
                  · have he2 : rd t.2 = some (atV M x).1 := by
                      rcases e5 with ⟨-, h⟩ | ⟨h, -⟩
                      · exact h
                      · rw [hv] at h; cases h
                    have HE := Lib.hid he2
                    obtain rfl : e = .returned (.tuple #[.float .f64 _, .bool true]) := he
                    clear e5 hv he2
                    go_wp2
                    go_meet
                    exact ⟨_, true, q, false, rfl, rfl, HR3.out, HG3.out, HNL.out.trans (by rw [HE.out]; rfl)⟩
                  · have he2 : rd t.2 = none := by
                      rcases e5 with ⟨h, -⟩ | ⟨-, h⟩
                      · rw [hv] at h; cases h
                      · exact h
                    have HE := Lib.hid he2
                    obtain rfl : e = .returned (.tuple #[.float .f64 f, .bool false]) := he
                    clear e5 hv he2
                    go_wp2
                    go_meet
                    exact ⟨f, false, q, false, rfl, rfl, HR3.out, HG3.out, HNL.out.trans (by rw [HE.out]; rfl)⟩
                · have HR2 := Lib.hid hr2
                  have hrn := rn_bad B w2 (ByteArray.empty ++ ByteArray.empty) (by rw [show ByteArray.empty ++ ByteArray.empty = ByteArray.empty from rfl]; exact bad_empty) hN2 (by decide)
                  have hnl := hfn (nlit rd (txs (t :: q))) (by
                    cases b with
                    | true => exact .inl rfl
                    | false =>
                      right
                      have h49 : t.1 ≠ 49 := by
                        rcases hno with h | h
                        · cases h
                        · exact h
                      have h45 : t.2 ≠ tMN := fun e => hn45 (htk.k45.2 e)
                      show nlit rd (t.2 :: txs q) = _
                      rw [nlit_p h45, htk.nn h49]
                      rfl)
                  have HNL := Lib.hid hnl
                  clear hr2 hnl hno htk hfn hn45
                  go_wp2_with fail
                  refine hrn.mono ?_
                  rintro e w3 ⟨⟨f, ok, he⟩, hb3⟩
                  obtain rfl : e = .returned (.tuple #[.float .f64 f, .bool ok]) := he
                  have HR3 := Lib.hid (HR2.out.far hb3)
                  have HG3 := Lib.hid (HG2.out.trans (below_grown hb3 _))
                  clear hrn hb3
                  go_wp2
                  go_meet
                  exact ⟨f, ok, t :: q, true, rfl, rfl, HR3.out, HG3.out, HNL.out⟩
          case rest =>
            obtain ⟨f, ok, r2, b2, rfl, rfl, hr2, hg2, hst⟩ := hcut
            have HR2 := Lib.hid hr2
            have HG2 := Lib.hid hg2
            have HST := Lib.hid hst
            clear hr2 hg2 hst ht HNG HNG2 HR1 HG1
            go_upto_if 27 with fail
            go_cut [] (fun wx => RdS Q G X cp all r2 (b2 || !ok) wx ∧ W0.grownBy wx (some Q))
            case first =>
              cases ok with
              | true =>
                go_wp2
                go_meet
                exact ⟨by simpa using HR2.out, HG2.out⟩
              | false =>
                have hs := HR2.out.setBad
                obtain ⟨ao, c, h1, -⟩ := HR2.out.q
                obtain ⟨c0, c1⟩ := cell_two h1
                have z := Lib.frozen_of_heap h1
                have HS1 := Lib.hid hs
                have HGS := Lib.hid (HG2.out.trans (Lib.grownBy_setCell wc Q 1 (.bool true)))
                clear hs h1
                go_wp2
                go_meet
                exact ⟨by simpa using HS1.out, HGS.out⟩
            case rest =>
              obtain ⟨hr3, hg3⟩ := hcut
              have HR3 := Lib.hid hr3
              have HG3 := Lib.hid hg3
              have hoc := own_keep HOW.out hg3 hQY
              have HOC := Lib.hid hoc
              have hYc : Y ≤ wc.heap.size := by
                have h1 := HG3.out.size
                have h2 := HGR.out.size
                have h3 := HY.out
                omega
              have hr4 := HR3.out.far ((Below.refl _ _).alloc (Nat.le_refl _) (.cells #[.float .f64 f] 79))
              have HR4 := Lib.hid hr4
              clear hr3 hg3 hoc hr4
              go_wp2_with (at_builtin; refine wpList_append_own _ rfl _ _ 30 rfl Y 79 i0 (.float .f64 0) 1 8 Tryz.underlying30 hi hz0 hz1 hz2 rfl (by decide) _ _ _ rfl (HOC.out.alloc _) ⟨wc.heap.size, 0, none⟩ 1 1 [.float .f64 f] rfl rfl ?c1 ?c2 ?c3 ?c4 ?c5 ?_)
              first
                | (case c1 =>
                    intro j u hj
                    match j, hj with
                    | 0, hj => simp at hj; subst hj; simp [Addr.add])
                | skip
              case c2 => first | rfl | (intro u hu; simp at hu; subst hu; rfl)
              case c3 => unfold maxLen; omega
              case c4 => omega
              case c5 => first | omega | (simp; omega)
              intro v' w5 hown5 hgrow _
              have HO5 := Lib.hid hown5
              have hb5 : Below Y wc w5 := ((Below.refl Y wc).alloc hYc _).grown hgrow (by simp; omega) (fun j e => (HOC.out.lt j e).1)
              have HR5 := Lib.hid (HR3.out.below hb5 hQY hGY)
              have HG5 : Hid (w.grownBy w5 (some Q)) := Lib.hid ((HGR.out.trans HG3.out).andThen ((World.grownBy_alloc wc _ _).trans hgrow) (fun j e => .inl (by have := (HOC.out.lt j e).1; have := HY.out; omega)))
              clear hown5 hgrow hb5
              go_wp2
              go_roundg (gk - 1)
              case measure => have := HG.out; omega
              case rel =>
                refine ⟨k + 1, ys ++ [f], r2, (b2 || !ok), by go_num, by have := HG.out; omega, by omega, by simp [HYS.out], by have := HO5.out; rw [show fl ys ++ [Value.float .f64 f] = fl (ys ++ [f]) from by simp [fl]] at this; exact this, HR5.out, HG5.out, ?_⟩
                have h1 := HREL.out
                rw [show D - k = (D - (k + 1)) + 1 from by omega] at h1
                exact step_rel h1 HST.out
    · have hkD' : ¬ (k : Int) < D := by omega
      have hkk : k = D := by omega
      subst hkk
      go_wp2
      go_ret
      refine ⟨⟨_, ys, r', b, rfl, ?_, HYS.out, ?_, ?_⟩, ?_⟩
      · have := HOW.out
        rw [HW0.out] at this
        exact this
      · exact HRS.out
      · rw [HREL.out, Nat.sub_self]
        cases b with
        | true => rfl
        | false => simp [nnum]
      · have := HGR.out
        rw [HW0.out] at this
        exact this
end Go.Proofs.YthfjakbpeclfcaaGreatDoor

namespace Go.Proofs.YthfjakbpeclfcaaGreatDoor
open Go.RowKit Go

section
variable {Q G X cp : Nat} {all r q : List (Nat × ByteArray)} {t : Nat × ByteArray} {bad : Bool} {w w' w0 : World}
theorem RdS.setX (h : RdS Q G X cp all r bad w) {g i ty : Nat} {cs : Array Value} {fz : Nat × Nat} {v : Value} (hg : w.heap[g]? = some (.cells cs ty fz)) (h1 : ty ≠ 54) (h2 : ty ≠ 70) : RdS Q G X cp all r bad (w.setCell ⟨g, i, none⟩ v) := by
  obtain ⟨ao, c, k1, k2⟩ := h.q
  refine ⟨h.pre, ⟨ao, c, (Below.heap_setCell _ _ _ _ ?_).trans k1, k2⟩, ownsRow_set h.g hg h2⟩
  show Q ≠ g
  rintro rfl
  rw [hg] at k1
  injection k1 with k1
  injection k1 with _ k1
  exact h1 k1
theorem cell_four {g ty : Nat} {a b c d : Value} (h : w.heap[g]? = some (.cells #[a, b, c, d] ty (0, 0))) : w.cell? ⟨g, 0, none⟩ = some a ∧ w.cell? ⟨g, 1, none⟩ = some b ∧ w.cell? ⟨g, 2, none⟩ = some c ∧ w.cell? ⟨g, 3, none⟩ = some d := by
  refine ⟨?_, ?_, ?_, ?_⟩
  all_goals rw [Lib.cell_of_heap h]; rfl
variable {g ty : Nat} {a b c d x y z u : Value}
theorem f4_heap (h : w.heap[g]? = some (.cells #[a, b, c, d] ty (0, 0))) : ((((w.setCell ⟨g, 0, none⟩ x).setCell ⟨g, 1, none⟩ y).setCell ⟨g, 2, none⟩ z).setCell ⟨g, 3, none⟩ u).heap[g]? = some (.cells #[x, y, z, u] ty (0, 0)) :=
  Lib.heap_setCell_same (i := 3) (Lib.heap_setCell_same (i := 2) (Lib.heap_setCell_same (i := 1) (Lib.heap_setCell_same (i := 0) h x) y) z) u
theorem f4_own (h : w.heap[g]? = some (.cells #[a, b, c, d] ty (0, 0))) {Y e size n : Nat} {v : Value} {xs : List Value} (ho : w.ownsRow Y e size v n xs) (ht : ty ≠ e) : ((((w.setCell ⟨g, 0, none⟩ x).setCell ⟨g, 1, none⟩ y).setCell ⟨g, 2, none⟩ z).setCell ⟨g, 3, none⟩ u).ownsRow Y e size v n xs := by
  have h1 := Lib.heap_setCell_same (i := 0) h x
  have h2 := Lib.heap_setCell_same (i := 1) h1 y
  have h3 := Lib.heap_setCell_same (i := 2) h2 z
  exact ownsRow_set (ownsRow_set (ownsRow_set (ownsRow_set ho h ht) h1 ht) h2 ht) h3 ht
theorem f4_ownB {Y e size n : Nat} {v : Value} {xs : List Value} (ho : w.ownsRow Y e size v n xs) (hg : g < Y) : ((((w.setCell ⟨g, 0, none⟩ x).setCell ⟨g, 1, none⟩ y).setCell ⟨g, 2, none⟩ z).setCell ⟨g, 3, none⟩ u).ownsRow Y e size v n xs :=
  ownsRow_setCell_below (ownsRow_setCell_below (ownsRow_setCell_below (ownsRow_setCell_below ho (a := ⟨g, 0, none⟩) hg x) (a := ⟨g, 1, none⟩) hg y) (a := ⟨g, 2, none⟩) hg z) (a := ⟨g, 3, none⟩) hg u
theorem f4_rds (h : w.heap[g]? = some (.cells #[a, b, c, d] ty (0, 0))) (ho : RdS Q G X cp all r bad w) (h1 : ty ≠ 54) (h2 : ty ≠ 70) : RdS Q G X cp all r bad ((((w.setCell ⟨g, 0, none⟩ x).setCell ⟨g, 1, none⟩ y).setCell ⟨g, 2, none⟩ z).setCell ⟨g, 3, none⟩ u) := by
  have k1 := Lib.heap_setCell_same (i := 0) h x
  have k2 := Lib.heap_setCell_same (i := 1) k1 y
  have k3 := Lib.heap_setCell_same (i := 2) k2 z
  exact (((ho.setX h h1 h2).setX k1 h1 h2).setX k2 h1 h2).setX k3 h1 h2
theorem f4_grown : w.grownBy ((((w.setCell ⟨g, 0, none⟩ x).setCell ⟨g, 1, none⟩ y).setCell ⟨g, 2, none⟩ z).setCell ⟨g, 3, none⟩ u) (some g) :=
  (((Lib.grownBy_setCell _ g 0 x).trans (Lib.grownBy_setCell _ g 1 y)).trans (Lib.grownBy_setCell _ g 2 z)).trans (Lib.grownBy_setCell _ g 3 u)
theorem grown_new {row : Option Nat} (h : w0.grownBy w row) (k : w.grownBy w' (some g)) (hg : w0.heap.size ≤ g) : w0.grownBy w' row :=
  h.andThen k (fun j e => .inl (by injection e with e; omega))
end
theorem npts_fuel {rd : ByteArray → Option Nat} {D : Nat} : ∀ (f f' : Nat) (acc : List Nat) (l : List ByteArray), l.length < f → l.length < f' → npts rd D f acc l = npts rd D f' acc l
  | 0, _, _, _, h, _ => by omega
  | _ + 1, 0, _, _, _, h => by omega
  | f + 1, f' + 1, acc, [], _, _ => rfl
  | f + 1, f' + 1, acc, t :: r, h, h' => by
    by_cases h1 : t = tRP
    · rw [npts_rp h1, npts_rp h1]
    · by_cases h2 : t = tCM
      · cases hn : nnum rd D r with
        | none => rw [npts_none h2 hn, npts_none h2 hn]
        | some z =>
          obtain ⟨ys, q⟩ := z
          rw [npts_step h2 hn, npts_step h2 hn]
          have := (nnum_sub hn).2.1
          simp only [List.length_cons] at h h'
          exact npts_fuel f f' _ q (by omega) (by omega)
      · rw [npts_bad h1 h2, npts_bad h1 h2]
theorem nrings_fuel {rd : ByteArray → Option Nat} {D : Nat} : ∀ (f f' : Nat) (acc : List (List Nat)) (l : List ByteArray), l.length < f → l.length < f' → nrings rd D f acc l = nrings rd D f' acc l
  | 0, _, _, _, h, _ => by omega
  | _ + 1, 0, _, _, _, h => by omega
  | f + 1, f' + 1, acc, [], _, _ => rfl
  | f + 1, f' + 1, acc, t :: r, h, h' => by
    by_cases h1 : t = tRP
    · rw [nrings_rp h1, nrings_rp h1]
    · by_cases h2 : t = tCM
      · cases hn : nline rd D r with
        | none => rw [nrings_none h2 hn, nrings_none h2 hn]
        | some z =>
          obtain ⟨ys, q⟩ := z
          rw [nrings_step h2 hn, nrings_step h2 hn]
          have := (nline_sub hn).2
          simp only [List.length_cons] at h h'
          exact nrings_fuel f f' _ q (by omega) (by omega)
      · rw [nrings_bad h1 h2, nrings_bad h1 h2]
theorem own_ne {w : World} {Y e size n g ty : Nat} {v : Value} {xs : List Value} {cs : Array Value} {fz : Nat × Nat} (h : w.ownsRow Y e size v n xs) (hg : w.heap[g]? = some (.cells cs ty fz)) (ht : ty ≠ e) : some g ≠ v.ownBlock := by
  intro ek
  rcases h.2 with ⟨rfl, -⟩ | ⟨g', cap, cur, rfl, -, h2, -⟩
  · cases ek
  · simp [Value.ownBlock] at ek
    subst ek
    rw [hg] at h2
    injection h2 with h2
    injection h2 with _ h2
    exact ht h2
theorem own_news {w : World} {Y e size n g c : Nat} {xs : List Value} (h : w.ownsRow Y e size (.slice (some ⟨g, 0, none⟩) n c) n xs) : ∀ j u, xs[j]? = some u → w.cell? ((⟨g, 0, none⟩ : Addr).add j) = some u := by
  intro j u hu
  have hadd : (⟨g, 0, none⟩ : Addr).add j = ⟨g, j, none⟩ := by unfold Addr.add; split <;> simp_all
  have hj : j < n * size := by
    rw [← h.1]
    exact (List.getElem?_eq_some_iff.1 hu).1
  rw [hadd, h.cellAt j hj, hu]
theorem fl_one (xs : List Nat) : ∀ u ∈ fl xs, u.oneCell' = true := by
  intro u hu
  unfold fl at hu
  obtain ⟨x, -, rfl⟩ := List.mem_map.1 hu
  rfl
theorem fl_app (xs ys : List Nat) : fl xs ++ fl ys = fl (xs ++ ys) := by simp [fl]
theorem txs_len (r : List (Nat × ByteArray)) : (txs r).length = r.length := by simp [txs]
end Go.Proofs.YthfjakbpeclfcaaGreatDoor
