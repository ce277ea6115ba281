/-
  The reference's digits and decimal: how many bytes at the beginning of a text are a decimal.
-/
import Derived.Test.YthfjakbpeclfcaaGreatDoorProg
import Derived.WalkKit
import Derived.WalkMore
import Derived.Lib.Hide
import Derived.Lib.IndexBytes
import Derived.Deep.DeepCutAuto
import Derived.Deep.CutBlock
namespace Go.Proofs.YthfjakbpeclfcaaGreatDoor
open Go.RowKit Go

def dgt (c : UInt8) : Bool := decide (48 ≤ c.toNat) && decide (c.toNat ≤ 57)
def dcnt : List UInt8 → Nat
  | [] => 0
  | c :: cs => if dgt c then dcnt cs + 1 else 0
theorem dcnt_le : ∀ L : List UInt8, dcnt L ≤ L.length
  | [] => Nat.le_refl _
  | c :: cs => by
    unfold dcnt
    split
    · have := dcnt_le cs
      simp only [List.length_cons]
      omega
    · exact Nat.zero_le _
theorem sbyte {S : ByteArray} {i : Nat} (hi : i < S.size) : S.data.toList[i]? = some S[i] := by
  cases S with
  | mk d =>
    have hi' : i < d.size := hi
    simp [hi']
    rfl
theorem slen (S : ByteArray) : S.data.toList.length = S.size := by cases S; rfl
theorem dcnt_at {S : ByteArray} {i : Nat} (hi : i < S.size) : dcnt (S.data.toList.drop i) = if dgt S[i] then dcnt (S.data.toList.drop (i + 1)) + 1 else 0 := by
  obtain ⟨h1, h2⟩ := List.getElem?_eq_some_iff.1 (sbyte hi)
  rw [List.drop_eq_getElem_cons h1, h2]
  rfl

set_option maxHeartbeats 1000000 in
set_option maxRecDepth 100000 in
theorem dcnt_any (w : World) (S : ByteArray) (hsz : S.size ≤ 100000) :
    Calls Tryz.prog 47 #[.string S] w fun e w' => e = .returned (.int .i64 (dcnt S.data.toList)) ∧ w' = w := by
  go_enter Tryz.func47, Tryz.ntmps47
  go_wp2
  go_loopg [3] S.size (fun G s3 wr => ∃ i : Nat, s3 = .int .i64 i ∧ i + G = S.size ∧ dcnt S.data.toList = i + dcnt (S.data.toList.drop i) ∧ wr = w)
  case atStart => exact ⟨0, rfl, by omega, by simp, rfl⟩
  case round =>
    obtain ⟨i, rfl, hi, hd, rfl⟩ := hrel
    have HI := Lib.hid hi
    have HD := Lib.hid hd
    by_cases hlt : i < S.size
    · have hlt' : (i : Int) < S.size := by omega
      have hst := dcnt_at hlt
      have HST := Lib.hid hst
      clear hd hst hi
      generalize hcS : S[i] = c at *
      by_cases h1 : 48 ≤ c.toNat
      · have h1' : (48 : Int) ≤ c.toNat := by omega
        by_cases h2 : c.toNat ≤ 57
        · have h2' : (c.toNat : Int) ≤ 57 := by omega
          have hg : dgt c = true := by unfold dgt; simp [h1, h2]
          have HG := Lib.hid hg
          clear hg h1 h2
          go_wp2
          go_roundg (gk - 1)
          case measure => have := HI.out; omega
          case rel => exact ⟨i + 1, by go_num, by have := HI.out; omega, by rw [HD.out, HST.out, if_pos HG.out]; omega, rfl⟩
        · have h2' : (57 : Int) < c.toNat := by omega
          have hg : ¬ dgt c = true := by unfold dgt; simp [h2]
          have HG := Lib.hid hg
          clear hg h1 h2
          go_wp2
          go_ret
          exact ⟨by rw [HD.out, HST.out, if_neg HG.out]; rfl, rfl⟩
      · have h1' : (c.toNat : Int) < 48 := by omega
        have hg : ¬ dgt c = true := by unfold dgt; simp [h1]
        have HG := Lib.hid hg
        clear hg h1
        go_wp2
        go_ret
        exact ⟨by rw [HD.out, HST.out, if_neg HG.out]; rfl, rfl⟩
    · have hlt' : (S.size : Int) ≤ i := by omega
      have him : i = S.size := by omega
      have hend : dcnt (S.data.toList.drop i) = 0 := by rw [List.drop_of_length_le (by rw [slen]; omega)]; rfl
      have HEND := Lib.hid hend
      clear him hend hi hd hlt
      go_wp2
      go_ret
      exact ⟨by rw [HD.out, HEND.out]; rfl, rfl⟩

/-- How many bytes at the beginning are a sign. -/
def sgnL : List UInt8 → Nat
  | [] => 0
  | c :: _ => if c.toNat = 43 ∨ c.toNat = 45 then 1 else 0
/-- The mantissa's bytes; 0: there is none. -/
def mant (L : List UInt8) : Nat :=
  match L.drop (dcnt L) with
  | [] => dcnt L
  | c :: R => if c.toNat = 46 then (if dcnt L + dcnt R = 0 then 0 else dcnt L + (1 + dcnt R)) else dcnt L
def tailE (L : List UInt8) (n : Nat) : Nat :=
  match L.drop n with
  | [] => n
  | c :: R => if c.toNat = 101 ∨ c.toNat = 69 then (if 0 < dcnt (R.drop (sgnL R)) then n + 1 + sgnL R + dcnt (R.drop (sgnL R)) else n) else n
def decN (L : List UInt8) : Nat := if mant L = 0 then 0 else tailE L (mant L)
theorem drop_at {S : ByteArray} {i : Nat} (hi : i < S.size) : S.data.toList.drop i = S[i] :: S.data.toList.drop (i + 1) := by
  obtain ⟨h1, h2⟩ := List.getElem?_eq_some_iff.1 (sbyte hi)
  rw [List.drop_eq_getElem_cons h1, h2]
theorem drop_end {S : ByteArray} {i : Nat} (hi : S.size ≤ i) : S.data.toList.drop i = [] := List.drop_of_length_le (by rw [slen]; exact hi)
theorem dcnt_sub (w : World) (S : ByteArray) (i : Nat) (hsz : S.size ≤ 100000) :
    Calls Tryz.prog 47 #[.string (S.extract i S.size)] w fun e w' => e = .returned (.int .i64 (dcnt (S.data.toList.drop i))) ∧ w' = w := by
  have h := dcnt_any w (S.extract i S.size) (by rw [ByteArray.size_extract]; omega)
  rw [Go.Lib.extract_to_end] at h
  exact h

set_option maxHeartbeats 1000000 in
set_option maxRecDepth 100000 in
theorem dec_any2 (w : World) (S : ByteArray) (hsz : S.size ≤ 100000) :
    Calls Tryz.prog 30 #[.string S] w fun e w' => e = .returned (.int .i64 (decN S.data.toList)) ∧ w' = w := by
  have hd1 := dcnt_any w S hsz
  have hle := dcnt_le S.data.toList
  rw [slen] at hle
  have hdef : decN S.data.toList = if mant S.data.toList = 0 then 0 else tailE S.data.toList (mant S.data.toList) := rfl
  have hsub := fun (w : World) (i : Nat) => dcnt_sub w S i hsz
  have hmle : mant S.data.toList ≤ S.size := by
    unfold mant
    split
    · exact hle
    · rename_i c R hcr
      have h1 : (S.data.toList.drop (dcnt S.data.toList)).length = R.length + 1 := by rw [hcr]; rfl
      rw [List.length_drop, slen] at h1
      have h2 := dcnt_le R
      split
      · split <;> omega
      · omega
  have HDEF := Lib.hid hdef
  have HSUB := Lib.hid hsub
  have HMLE := Lib.hid hmle
  clear hdef hsub hmle
  generalize hn1 : dcnt S.data.toList = n1 at *
  have HN1 := Lib.hid hn1
  clear hn1
  go_enter Tryz.func30, Tryz.ntmps30
  go_wp2_with fail
  refine hd1.mono ?_
  rintro e w' ⟨rfl, rfl⟩
  clear hd1
  go_upto_region 3 with fail
  go_cut [20] (fun s20 wx => wx = w' ∧ s20 = .bool (decide (n1 < S.size ∧ (S.data.toList.drop n1).headD 0 = 46)))
  case first =>
    by_cases h1 : n1 < S.size
    · have h1' : (n1 : Int) < S.size := by omega
      have hdr := drop_at h1
      by_cases h46 : S[n1].toNat = 46
      · have h46' : ((S[n1].toNat : Int) == 46) = true := by simp; omega
        have hres : decide (n1 < S.size ∧ (S.data.toList.drop n1).headD 0 = 46) = true := by
          rw [hdr]
          exact decide_eq_true ⟨h1, UInt8.toNat_inj.1 h46⟩
        have HRES := Lib.hid hres
        clear hdr hres h46
        go_wp2
        go_meet
        exact ⟨rfl, by rw [HRES.out]⟩
      · have h46' : ((S[n1].toNat : Int) == 46) = false := by simp; omega
        have hres : decide (n1 < S.size ∧ (S.data.toList.drop n1).headD 0 = 46) = false := by
          rw [hdr]
          refine decide_eq_false (fun h => h46 ?_)
          have := h.2
          simp only [List.headD_cons] at this
          rw [this]
          rfl
        have HRES := Lib.hid hres
        clear hdr hres h46
        go_wp2
        go_meet
        exact ⟨rfl, by rw [HRES.out]⟩
    · have h1' : (S.size : Int) ≤ n1 := by omega
      have hres : decide (n1 < S.size ∧ (S.data.toList.drop n1).headD 0 = 46) = false := decide_eq_false (fun h => h1 h.1)
      have HRES := Lib.hid hres
      clear hres h1
      go_wp2
      go_meet
      exact ⟨rfl, by rw [HRES.out]⟩
  case rest =>
    obtain ⟨rfl, rfl⟩ := hcut
    go_upto_if 20 with fail
    go_cut [3] (fun s3 wx => wx = wc ∧ s3 = .int .i64 (mant S.data.toList))
    case first =>
      by_cases h1 : n1 < S.size ∧ (S.data.toList.drop n1).headD 0 = 46
      · obtain ⟨h2, h3⟩ := h1
        have hdr := drop_at h2
        rw [hdr] at h3
        simp only [List.headD_cons] at h3
        have hm : mant S.data.toList = if n1 + dcnt (S.data.toList.drop (n1 + 1)) = 0 then 0 else n1 + (1 + dcnt (S.data.toList.drop (n1 + 1))) := by
          unfold mant
          rw [HN1.out, hdr]
          dsimp only
          rw [h3, if_pos (by rfl)]
        have hres : decide (n1 < S.size ∧ (S.data.toList.drop n1).headD 0 = 46) = true := by
          rw [hdr]
          exact decide_eq_true ⟨h2, h3⟩
        have hc := HSUB.out
        have hdl := dcnt_le (S.data.toList.drop (n1 + 1))
        rw [List.length_drop, slen] at hdl
        rw [hres]
        have HM := Lib.hid hm
        clear hm hres hdr h3
        have h2' : (n1 : Int) + 1 ≤ S.size := by omega
        have hcv := fun w => hc w (n1 + 1)
        clear hc
        generalize dcnt (S.data.toList.drop (n1 + 1)) = m at *
        by_cases h0 : n1 + m = 0
        · have h0' : (((n1 : Int) + m) == 0) = true := by simp; omega
          have HZ := Lib.hid h0
          clear h0
          go_wp2_with (go_at_call 47; refine (hcv _).mono ?_; rintro e w' ⟨rfl, rfl⟩)
          go_ret
          exact ⟨by rw [HDEF.out, HM.out, if_pos HZ.out, if_pos rfl]; rfl, rfl⟩
        · have h0' : (((n1 : Int) + m) == 0) = false := by simp; omega
          have HZ := Lib.hid h0
          clear h0
          go_wp2_with (go_at_call 47; refine (hcv _).mono ?_; rintro e w' ⟨rfl, rfl⟩)
          go_meet
          exact ⟨rfl, by rw [HM.out, if_neg HZ.out]; simp⟩
      · have hres : decide (n1 < S.size ∧ (S.data.toList.drop n1).headD 0 = 46) = false := decide_eq_false h1
        have hm : mant S.data.toList = n1 := by
          unfold mant
          rw [HN1.out]
          split
          · rfl
          · rename_i c R hcr
            by_cases hc : c.toNat = 46
            · exfalso
              refine h1 ⟨?_, ?_⟩
              · rcases Nat.lt_or_ge n1 S.size with h | h
                · exact h
                · rw [drop_end h] at hcr; cases hcr
              · rw [hcr]
                exact UInt8.toNat_inj.1 hc
            · rw [if_neg hc]
        have HM := Lib.hid hm
        rw [hres]
        clear h1 hres hm
        go_wp2
        go_meet
        exact ⟨rfl, by rw [HM.out]⟩
    case rest =>
      obtain ⟨rfl, rfl⟩ := hcut
      have hml := HMLE.out
      have hdf := HDEF.out
      generalize hm : mant S.data.toList = m at *
      have HM := Lib.hid hm
      have HDF := Lib.hid hdf
      clear hm hdf
      by_cases hm0 : m = 0
      · subst hm0
        go_wp2
        go_ret
        exact ⟨by rw [HDF.out]; simp, rfl⟩
      · have hm0' : ((m : Int) == 0) = false := by simp; omega
        have hdt : decN S.data.toList = tailE S.data.toList m := by rw [HDF.out, if_neg hm0]
        have HDT := Lib.hid hdt
        clear hdt hm0
        by_cases h1 : m < S.size
        · have h1' : (m : Int) < S.size := by omega
          have hdr := drop_at h1
          by_cases he : S[m].toNat = 101 ∨ S[m].toNat = 69
          · have htl : decN S.data.toList = if 0 < dcnt ((S.data.toList.drop (m + 1)).drop (sgnL (S.data.toList.drop (m + 1)))) then m + 1 + sgnL (S.data.toList.drop (m + 1)) + dcnt ((S.data.toList.drop (m + 1)).drop (sgnL (S.data.toList.drop (m + 1)))) else m := by
              rw [HDT.out]
              unfold tailE
              rw [hdr]
              dsimp only
              rw [if_pos he]
            have hgu : ((S[m].toNat : Int) == 101) = true ∨ ((S[m].toNat : Int) == 101) = false ∧ ((S[m].toNat : Int) == 69) = true := by
              rcases he with h | h
              · left; simp; omega
              · right; constructor <;> simp <;> omega
            have HTL := Lib.hid htl
            have HDR := Lib.hid hdr
            clear htl hdr he
            go_upto_region 10 with fail
            go_cut [51] (fun s51 wx => wx = wc ∧ s51 = .bool true)
            case first =>
              rcases hgu with hg | ⟨hg1, hg2⟩
              · go_wp2
                go_meet
                exact ⟨rfl, rfl⟩
              · go_wp2
                go_meet
                exact ⟨rfl, rfl⟩
            case rest =>
              obtain ⟨rfl, rfl⟩ := hcut
              have hm2 : (m : Int) + 1 ≤ S.size := by omega
              have htl2 := HTL.out
              clear hgu
              go_upto_region 12 with fail
              go_cut [69] (fun s69 wx => wx = wc ∧ s69 = .bool (decide (sgnL (S.data.toList.drop (m + 1)) = 1)))
              case first =>
                by_cases h2 : m + 1 < S.size
                · have h2' : (m : Int) + 1 < S.size := by omega
                  have hdr := drop_at h2
                  have hgu : ((S[m + 1].toNat : Int) == 43) = true ∨ ((S[m + 1].toNat : Int) == 43) = false ∧ (((S[m + 1].toNat : Int) == 45) = true ∨ ((S[m + 1].toNat : Int) == 45) = false) := by
                    by_cases h : S[m + 1].toNat = 43
                    · left; simp; omega
                    · right; refine ⟨by simp; omega, ?_⟩
                      by_cases h' : S[m + 1].toNat = 45
                      · left; simp; omega
                      · right; simp; omega
                  have hsg : sgnL (S.data.toList.drop (m + 1)) = if S[m + 1].toNat = 43 ∨ S[m + 1].toNat = 45 then 1 else 0 := by rw [hdr]; rfl
                  have HSG := Lib.hid hsg
                  clear hdr hsg htl2
                  rcases hgu with hg | ⟨hg1, hg2 | hg2⟩
                  · have hr : decide (sgnL (S.data.toList.drop (m + 1)) = 1) = true := by
                      rw [HSG.out, if_pos (.inl (by simp at hg; omega))]; rfl
                    have HR := Lib.hid hr
                    clear hr
                    go_wp2
                    go_meet
                    exact ⟨rfl, by rw [HR.out]⟩
                  · have hr : decide (sgnL (S.data.toList.drop (m + 1)) = 1) = true := by
                      rw [HSG.out, if_pos (.inr (by simp at hg2; omega))]; rfl
                    have HR := Lib.hid hr
                    clear hr
                    go_wp2
                    go_meet
                    exact ⟨rfl, by rw [HR.out]⟩
                  · have hr : decide (sgnL (S.data.toList.drop (m + 1)) = 1) = false := by
                      rw [HSG.out, if_neg (by simp at hg1 hg2; omega)]; rfl
                    have HR := Lib.hid hr
                    clear hr
                    go_wp2
                    go_meet
                    exact ⟨rfl, by rw [HR.out]⟩
                · have h2' : (S.size : Int) ≤ m + 1 := by omega
                  have hr : decide (sgnL (S.data.toList.drop (m + 1)) = 1) = false := by
                    rw [drop_end (by omega)]; rfl
                  have HR := Lib.hid hr
                  clear hr h2 htl2
                  go_wp2
                  go_meet
                  exact ⟨rfl, by rw [HR.out]⟩
              case rest =>
                obtain ⟨rfl, rfl⟩ := hcut
                have hsl : sgnL (S.data.toList.drop (m + 1)) = 1 ∨ sgnL (S.data.toList.drop (m + 1)) = 0 := by
                  unfold sgnL
                  split
                  · exact .inr rfl
                  · split
                    · exact .inl rfl
                    · exact .inr rfl
                rcases hsl with hs | hs
                · rw [show decide (sgnL (S.data.toList.drop (m + 1)) = 1) = true from decide_eq_true hs]
                  have hm3 : m + 2 ≤ S.size := by
                    rcases Nat.lt_or_ge (m + 1) S.size with h | h
                    · exact h
                    · rw [drop_end h] at hs; cases hs
                  have hm4 : (m : Int) + 1 + 1 ≤ S.size := by omega
                  have hdd : (S.data.toList.drop (m + 1)).drop 1 = S.data.toList.drop (m + 2) := by rw [List.drop_drop]
                  have hcv := fun w => HSUB.out w (m + 2)
                  have hb := dcnt_le (S.data.toList.drop (m + 2))
                  rw [List.length_drop, slen] at hb
                  rw [hs] at htl2
                  rw [hdd] at htl2
                  clear hs hm3
                  generalize dcnt (S.data.toList.drop (m + 2)) = d at *
                  have HT2 := Lib.hid htl2
                  have hd5 : (d : Int) ≤ 100000 := by omega
                  clear htl2 hdd hb
                  by_cases h0 : 0 < d
                  · have h0' : (0 : Int) < d := by omega
                    have HZ := Lib.hid h0
                    clear h0
                    go_wp2_with (go_at_call 47; refine (hcv _).mono ?_; rintro e w' ⟨rfl, rfl⟩)
                    go_ret
                    exact ⟨by rw [HT2.out, if_pos HZ.out]; simp, rfl⟩
                  · have h0' : (d : Int) ≤ 0 := by omega
                    have HZ := Lib.hid h0
                    clear h0
                    go_wp2_with (go_at_call 47; refine (hcv _).mono ?_; rintro e w' ⟨rfl, rfl⟩)
                    go_ret
                    exact ⟨by rw [HT2.out, if_neg HZ.out]; rfl, rfl⟩
                · rw [show decide (sgnL (S.data.toList.drop (m + 1)) = 1) = false from decide_eq_false (by omega)]
                  have hdd : (S.data.toList.drop (m + 1)).drop 0 = S.data.toList.drop (m + 1) := rfl
                  have hcv := fun w => HSUB.out w (m + 1)
                  have hb := dcnt_le (S.data.toList.drop (m + 1))
                  rw [List.length_drop, slen] at hb
                  rw [hs] at htl2
                  rw [hdd] at htl2
                  clear hs
                  generalize dcnt (S.data.toList.drop (m + 1)) = d at *
                  have HT2 := Lib.hid htl2
                  have hd5 : (d : Int) ≤ 100000 := by omega
                  clear htl2 hdd hb
                  by_cases h0 : 0 < d
                  · have h0' : (0 : Int) < d := by omega
                    have HZ := Lib.hid h0
                    clear h0
                    go_wp2_with (go_at_call 47; refine (hcv _).mono ?_; rintro e w' ⟨rfl, rfl⟩)
                    go_ret
                    exact ⟨by rw [HT2.out, if_pos HZ.out]; simp, rfl⟩
                  · have h0' : (d : Int) ≤ 0 := by omega
                    have HZ := Lib.hid h0
                    clear h0
                    go_wp2_with (go_at_call 47; refine (hcv _).mono ?_; rintro e w' ⟨rfl, rfl⟩)
                    go_ret
                    exact ⟨by rw [HT2.out, if_neg HZ.out]; rfl, rfl⟩
          · have htl : decN S.data.toList = m := by
              rw [HDT.out]
              unfold tailE
              rw [hdr]
              dsimp only
              rw [if_neg he]
            have hg1 : ((S[m].toNat : Int) == 101) = false := by simp; omega
            have hg2 : ((S[m].toNat : Int) == 69) = false := by simp; omega
            have HTL := Lib.hid htl
            clear htl hdr he
            go_wp2
            go_ret
            exact ⟨by rw [HTL.out]; rfl, rfl⟩
        · have h1' : (S.size : Int) ≤ m := by omega
          have htl : decN S.data.toList = m := by
            rw [HDT.out]
            unfold tailE
            rw [drop_end (by omega)]
          have HTL := Lib.hid htl
          clear htl h1
          go_wp2
          go_ret
          exact ⟨by rw [HTL.out]; rfl, rfl⟩
end Go.Proofs.YthfjakbpeclfcaaGreatDoor
