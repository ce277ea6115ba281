/-
  The library's special values of ParseFloat.
-/
import Derived.Test.YthfjakbpeclfcaaGreatDoorRf
namespace Go.Proofs.YthfjakbpeclfcaaGreatDoor
open Go.RowKit Go

def lowc (c : UInt8) : Nat := if 65 ≤ c.toNat ∧ c.toNat ≤ 90 then c.toNat + 32 else c.toNat
def cpl : List UInt8 → List UInt8 → Nat
  | c :: cs, p :: ps => if lowc c = p.toNat then cpl cs ps + 1 else 0
  | [], _ => 0
  | _, [] => 0

theorem cpl_step (L P : List UInt8) (i : Nat) (c p : UInt8) (hc : L[i]? = some c) (hp : P[i]? = some p) :
    cpl (L.drop i) (P.drop i) = if lowc c = p.toNat then cpl (L.drop (i + 1)) (P.drop (i + 1)) + 1 else 0 := by
  obtain ⟨h1, h2⟩ := List.getElem?_eq_some_iff.1 hc
  obtain ⟨h3, h4⟩ := List.getElem?_eq_some_iff.1 hp
  rw [List.drop_eq_getElem_cons h1, List.drop_eq_getElem_cons h3, h2, h4]
  rfl
theorem at_byte {S : ByteArray} {i : Nat} (hi : i < S.size) : S.data.toList[i]? = some S[i] := by
  cases S with
  | mk d =>
    have hi' : i < d.size := hi
    simp [hi']
    rfl
theorem cpl_end (L P : List UInt8) (i : Nat) (h : L.length ≤ i ∨ P.length ≤ i) : cpl (L.drop i) (P.drop i) = 0 := by
  rcases h with h | h
  · rw [List.drop_of_length_le h]
    rfl
  · rw [show P.drop i = [] from List.drop_of_length_le h]
    cases L.drop i <;> rfl

set_option maxHeartbeats 1000000 in
set_option maxRecDepth 100000 in
theorem cpl_any (w : World) (S T : ByteArray) (hS : S.size ≤ 100000) (hT : T.size ≤ 100000) :
    Calls Tryz.prog 138 #[.string S, .string T] w fun e w' => e = .returned (.int .i64 (cpl S.data.toList T.data.toList)) ∧ w' = w := by
  have hlS : S.data.toList.length = S.size := by cases S; rfl
  have hlT : T.data.toList.length = T.size := by cases T; rfl
  have HLS := Lib.hid hlS
  have HLT := Lib.hid hlT
  clear hlS hlT
  go_enter Tryz.func138, Tryz.ntmps138
  go_upto_region 1 with fail
  go_cut [5] (fun s5 wx => wx = w ∧ ∃ mn : Nat, s5 = .int .i64 mn ∧ mn ≤ S.size ∧ mn ≤ T.size ∧ (mn = S.size ∨ mn = T.size))
  case first =>
    by_cases hle : S.size < T.size
    · have hle' : (S.size : Int) < T.size := by omega
      go_wp2
      go_meet
      exact ⟨rfl, S.size, rfl, by omega, by omega, .inl rfl⟩
    · have hle' : (T.size : Int) ≤ S.size := by omega
      go_wp2
      go_meet
      exact ⟨rfl, T.size, rfl, by omega, by omega, .inr rfl⟩
  case rest =>
    obtain ⟨rfl, mn, rfl, h1, h2, h3⟩ := hcut
    have H3 := Lib.hid h3
    clear h3
    go_wp2
    go_loopg [6] mn (fun G s6 wr => ∃ i : Nat, s6 = .int .i64 i ∧ i + G = mn ∧ cpl S.data.toList T.data.toList = i + cpl (S.data.toList.drop i) (T.data.toList.drop i) ∧ wr = wc)
    case atStart => exact ⟨0, rfl, by omega, by simp, rfl⟩
    case round =>
      obtain ⟨i, rfl, hi, hc, rfl⟩ := hrel
      have HI := Lib.hid hi
      have HCC := Lib.hid hc
      clear hc
      by_cases hlt : i < mn
      · have hlt' : (i : Int) < mn := by omega
        have b1 : i < S.size := by omega
        have b2 : i < T.size := by omega
        have b1' : (i : Int) < S.size := by omega
        have b2' : (i : Int) < T.size := by omega
        have hst := cpl_step S.data.toList T.data.toList i S[i] T[i] (at_byte b1) (at_byte b2)
        have HST := Lib.hid hst
        clear hst hi
        generalize hcS : S[i] = c at *
        generalize hpT : T[i] = p at *
        by_cases hup : 65 ≤ c.toNat ∧ c.toNat ≤ 90
        · obtain ⟨u1, u2⟩ := hup
          have u1' : (65 : Int) ≤ c.toNat := by omega
          have u2' : (c.toNat : Int) ≤ 90 := by omega
          have uw : IntKind.u8.wrap ((c.toNat : Int) + 32) = (c.toNat : Int) + 32 := by rw [IntKind.wrap_u8]; omega
          have hlow : lowc c = c.toNat + 32 := if_pos ⟨u1, u2⟩
          by_cases he : c.toNat + 32 = p.toNat
          · have he' : ((c.toNat : Int) + 32 != p.toNat) = false := by simp; omega
            have HE := Lib.hid he
            have HLO := Lib.hid hlow
            clear he hlow
            go_wp2
            go_roundg (gk - 1)
            case measure => have := HI.out; omega
            case rel => exact ⟨i + 1, by go_num, by have := HI.out; omega, by rw [HCC.out, HST.out, HLO.out, if_pos HE.out]; omega, rfl⟩
          · have he' : ((c.toNat : Int) + 32 != p.toNat) = true := by simp; omega
            have HE := Lib.hid he
            have HLO := Lib.hid hlow
            clear he hlow
            go_wp2
            go_ret
            exact ⟨by rw [HCC.out, HST.out, HLO.out, if_neg HE.out]; rfl, rfl⟩
        · have hlow : lowc c = c.toNat := if_neg hup
          have HLO := Lib.hid hlow
          clear hlow
          by_cases he : c.toNat = p.toNat
          · have he' : ((c.toNat : Int) != p.toNat) = false := by simp; omega
            have HE := Lib.hid he
            clear he
            by_cases u1 : 65 ≤ c.toNat
            · have u1' : (65 : Int) ≤ c.toNat := by omega
              have u2' : (90 : Int) < c.toNat := by omega
              clear hup
              go_wp2
              go_roundg (gk - 1)
              case measure => have := HI.out; omega
              case rel => exact ⟨i + 1, by go_num, by have := HI.out; omega, by rw [HCC.out, HST.out, HLO.out, if_pos HE.out]; omega, rfl⟩
            · have u1' : (c.toNat : Int) < 65 := by omega
              clear hup
              go_wp2
              go_roundg (gk - 1)
              case measure => have := HI.out; omega
              case rel => exact ⟨i + 1, by go_num, by have := HI.out; omega, by rw [HCC.out, HST.out, HLO.out, if_pos HE.out]; omega, rfl⟩
          · have he' : ((c.toNat : Int) != p.toNat) = true := by simp; omega
            have HE := Lib.hid he
            clear he
            by_cases u1 : 65 ≤ c.toNat
            · have u1' : (65 : Int) ≤ c.toNat := by omega
              have u2' : (90 : Int) < c.toNat := by omega
              clear hup
              go_wp2
              go_ret
              exact ⟨by rw [HCC.out, HST.out, HLO.out, if_neg HE.out]; rfl, rfl⟩
            · have u1' : (c.toNat : Int) < 65 := by omega
              clear hup
              go_wp2
              go_ret
              exact ⟨by rw [HCC.out, HST.out, HLO.out, if_neg HE.out]; rfl, rfl⟩
      · have hlt' : (mn : Int) ≤ i := by omega
        have hend : cpl (S.data.toList.drop i) (T.data.toList.drop i) = 0 := cpl_end _ _ _ (by rw [HLS.out, HLT.out]; have := H3.out; omega)
        have him : i = mn := by omega
        have HEND := Lib.hid hend
        have HIM := Lib.hid him
        clear hend him hi hlt
        go_wp2
        go_ret
        exact ⟨by rw [HCC.out, HEND.out, HIM.out]; rfl, rfl⟩

theorem bytes_len (S : ByteArray) : S.data.toList.length = S.size := by cases S; rfl
theorem ext_tail (S : ByteArray) : (S.extract 1 S.size).data.toList = S.data.toList.drop 1 := by
  cases S with
  | mk d =>
    have h := ByteArray.extract_mk d.toList 1 d.size
    rw [Array.toArray_toList] at h
    show ((ByteArray.mk d).extract 1 d.size).data.toList = d.toList.drop 1
    rw [h]
    simp
    exact List.take_of_length_le (by simp)

set_option maxHeartbeats 1000000 in
set_option maxRecDepth 100000 in
theorem sp_num (w : World) (S : ByteArray) (ng : Bool) (c0 : UInt8) (R : List UInt8) (hl : S.data.toList = (if ng then [45] else []) ++ (c0 :: R)) (hc : c0.toNat = 46 ∨ 48 ≤ c0.toNat ∧ c0.toNat ≤ 57) (hsz : S.size ≤ 100000) :
    Calls Tryz.prog 122 #[.string S] w fun e w' => e = .returned (.tuple #[.float .f64 0, .int .i64 0, .bool false]) ∧ w' = w := by
  have hlen : S.data.toList.length = S.size := by cases S; rfl
  have hS0 : 0 < S.size := by rw [← hlen, hl]; cases ng <;> simp
  have hSe : ¬ S = ByteArray.empty := by
    rintro rfl
    exact absurd hS0 (by decide)
  have HL := Lib.hid hl
  have HLEN := Lib.hid hlen
  clear hl hlen
  cases ng
  · have hb : S[0] = c0 := byte_at (by rw [HL.out]; rfl) hS0
    have n1 : ((c0.toNat : Int) == 43) = false := by simp; omega
    have n2 : ((c0.toNat : Int) == 45) = false := by simp; omega
    have n3 : ((c0.toNat : Int) == 105) = false := by simp; omega
    have n4 : ((c0.toNat : Int) == 73) = false := by simp; omega
    have n5 : ((c0.toNat : Int) == 110) = false := by simp; omega
    have n6 : ((c0.toNat : Int) == 78) = false := by simp; omega
    go_enter Tryz.func122, Tryz.ntmps122
    go_wp2
    refine bodyPost_ret (results_tmp3 rfl _ _ _) rfl ?_
    exact ⟨rfl, rfl⟩
  · have hb : S[0] = 45 := byte_at (by rw [HL.out]; rfl) hS0
    have hx : (S.extract 1 S.size).data.toList = c0 :: R := by
      rw [ext_tail, HL.out]
      rfl
    have hxs : (S.extract 1 S.size).size ≤ 100000 := by
      rw [← bytes_len, hx]
      have h3 := congrArg List.length HL.out
      rw [HLEN.out] at h3
      simp at h3
      simp
      omega
    have HX := Lib.hid hx
    have HXS := Lib.hid hxs
    clear hx hxs
    go_enter Tryz.func122, Tryz.ntmps122
    go_wp2_with fail
    generalize S.extract 1 S.size = S1 at *
    refine (cpl_any _ _ _ HXS.out (by decide)).mono ?_
    rintro e w' ⟨rfl, rfl⟩
    have h0 : cpl S1.data.toList [105, 110, 102, 105, 110, 105, 116, 121] = 0 := by
      rw [HX.out]
      unfold cpl
      rw [if_neg]
      unfold lowc
      rw [if_neg (by omega)]
      show ¬ c0.toNat = 105
      omega
    rw [show (#[105, 110, 102, 105, 110, 105, 116, 121] : Array UInt8).toList = [105, 110, 102, 105, 110, 105, 116, 121] from rfl, h0]
    clear h0
    go_wp2
    refine bodyPost_ret (results_tmp3 rfl _ _ _) rfl ?_
    exact ⟨rfl, rfl⟩
end Go.Proofs.YthfjakbpeclfcaaGreatDoor
