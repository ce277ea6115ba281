/-
  The reference's tokens.
  The reference's AskedWKT and Tokens; the law's pTokens.
-/
import Derived.Test.YthfjakbpeclfcaaGreatDoorGKa
import Derived.OwnWalk
import Derived.Deep.AppendLies
import Derived.WideShapes
import Derived.Test.YthfjakbpeclfcaaGreatDoorGGp
namespace Go.Proofs.YthfjakbpeclfcaaGreatDoor
open Go.RowKit Go

theorem inf70 : (Tryz.prog.info? 70).map (fun i => (i.zero, i.size, i.bytes)) = some (some (.agg #[.int .u8 0, .string ByteArray.empty]), 2, 24) := by kernel_rfl
def tkc (ts : List (Nat × ByteArray)) : List Value := ts.flatMap fun t => [.int .u8 t.1, .string t.2]
theorem tkc_len (ts : List (Nat × ByteArray)) : (tkc ts).length = ts.length * 2 := by
  induction ts with
  | nil => rfl
  | cons a t ih => simp only [tkc, List.flatMap_cons, List.length_append, List.length_cons, List.length_nil] at *; omega
theorem tkc_snoc (ts : List (Nat × ByteArray)) (t : Nat × ByteArray) : tkc (ts ++ [t]) = tkc ts ++ [.int .u8 t.1, .string t.2] := by simp [tkc]
section
variable {f : Nat} {j : Bool} {c : UInt8} {R : List UInt8}
theorem rtk_blk (h : blk c = true) : rtk (f + 1) j (c :: R) = rtk f false R := by
  conv => lhs; unfold rtk
  rw [if_pos h]
theorem rtk_sg (h0 : blk c = false) (h : sgB c = true) (hj : ¬ (c.toNat = 45 ∧ j = true)) : rtk (f + 1) j (c :: R) = (rtk f false R).map ((c.toNat, ⟨#[c]⟩) :: ·) := by
  conv => lhs; unfold rtk
  rw [if_neg (by rw [h0]; decide), if_pos h, if_neg hj]
theorem rtk_sgbad (h0 : blk c = false) (h : sgB c = true) (hj : c.toNat = 45 ∧ j = true) : rtk (f + 1) j (c :: R) = none := by
  conv => lhs; unfold rtk
  rw [if_neg (by rw [h0]; decide), if_pos h, if_pos hj]
theorem rtk_wd (h0 : blk c = false) (h : sgB c = false) (hw : ¬ (wl (c :: R) = 0 ∨ j = true)) : rtk (f + 1) j (c :: R) = (rtk f true ((c :: R).drop (wl (c :: R)))).map ((kdB c, ⟨((c :: R).take (wl (c :: R))).toArray⟩) :: ·) := by
  conv => lhs; unfold rtk
  rw [if_neg (by rw [h0]; decide), if_neg (by rw [h]; decide), if_neg hw]
theorem rtk_wdbad (h0 : blk c = false) (h : sgB c = false) (hw : wl (c :: R) = 0 ∨ j = true) : rtk (f + 1) j (c :: R) = none := by
  conv => lhs; unfold rtk
  rw [if_neg (by rw [h0]; decide), if_neg (by rw [h]; decide), if_pos hw]
end
theorem rtk_nil (f : Nat) (j : Bool) : rtk f j [] = some [] := by cases f <;> rfl
theorem wl_le (L : List UInt8) : wl L ≤ L.length := by
  cases L with
  | nil => exact Nat.le_refl _
  | cons c R =>
    show (if letB c then lets (c :: R) else decN (c :: R)) ≤ _
    split
    · exact (lets_take _).2
    · by_cases h : decN (c :: R) = 0
      · rw [h]; exact Nat.zero_le _
      · obtain ⟨M, E, x, h1, h2, h3, h4⟩ := decN_split _ h
        have := congrArg List.length h1
        simp only [List.length_append] at this
        omega
theorem ext_sub (S : ByteArray) (i n : Nat) : S.extract i (i + n) = ⟨((S.data.toList.drop i).take n).toArray⟩ := by
  apply Go.WideShapes.bytes_inj
  rw [Go.Lib.extract_data, Nat.add_sub_cancel_left]
def tkOut (X : Nat) (S : ByteArray) (e : Ending) (w' : World) : Prop :=
  match rtk S.size false S.data.toList with
  | some ts => ∃ v, e = .returned (.tuple #[v, .bool true]) ∧ w'.ownsRow X 70 2 v ts.length (tkc ts) ∧ ts.length ≤ S.size
  | none => e = .returned (.tuple #[.slice none 0 0, .bool false])
theorem tkOut_some {X : Nat} {S : ByteArray} {e : Ending} {w' : World} {ts : List (Nat × ByteArray)} (h : rtk S.size false S.data.toList = some ts) (h2 : ∃ v, e = .returned (.tuple #[v, .bool true]) ∧ w'.ownsRow X 70 2 v ts.length (tkc ts) ∧ ts.length ≤ S.size) : tkOut X S e w' := by unfold tkOut; rw [h]; exact h2
theorem tkOut_none {X : Nat} {S : ByteArray} {e : Ending} {w' : World} (h : rtk S.size false S.data.toList = none) (h2 : e = .returned (.tuple #[.slice none 0 0, .bool false])) : tkOut X S e w' := by unfold tkOut; rw [h]; exact h2
theorem lets_at {S : ByteArray} {i : Nat} (hi : i < S.size) : lets (S.data.toList.drop i) = if letB S[i] then lets (S.data.toList.drop (i + 1)) + 1 else 0 := by
  rw [drop_at hi]
  rfl
theorem dec_sub (w : World) (S : ByteArray) (i : Nat) (hsz : S.size ≤ 100000) :
    Calls Tryz.prog 30 #[.string (S.extract i S.size)] w fun e w' => e = .returned (.int .i64 (decN (S.data.toList.drop i))) ∧ w' = w := by
  have h := dec_any2 w (S.extract i S.size) (by rw [ByteArray.size_extract]; omega)
  rw [Go.Lib.extract_to_end] at h
  exact h
theorem map_app {α : Type} {o : Option (List α)} {x : α} {acc : List α} : (o.map (x :: ·)).map (acc ++ ·) = o.map (acc ++ [x] ++ ·) := by
  cases o with
  | none => rfl
  | some l => simp

set_option maxHeartbeats 40000000 in
set_option maxRecDepth 100000 in
theorem tok_any (S : ByteArray) (w : World) (hsz : S.size ≤ 100000) :
    Calls Tryz.prog 17 #[.string S] w fun e w' => tkOut w.heap.size S e w' ∧ Below w.heap.size w w' := by
  obtain ⟨i0, hi, hz0, hz1, hz2⟩ := info_parts inf70
  obtain ⟨X, hX⟩ : ∃ X, X = w.heap.size := ⟨_, rfl⟩
  rw [← hX]
  have HX := Lib.hid hX
  have hlt := let_any
  clear hX
  go_enter Tryz.func17, Tryz.ntmps17
  go_wp2
  go_loopg [2, 4, 5] (S.size + 1) (fun G s2 s4 s5 wr => ∃ (i : Nat) (j : Bool) (acc : List (Nat × ByteArray)), s5 = .int .i64 i ∧ s4 = .bool j ∧ i ≤ S.size ∧ S.size - i + 1 ≤ G ∧
    rtk S.size false S.data.toList = (rtk (G - 1) j (S.data.toList.drop i)).map (acc ++ ·) ∧ wr.ownsRow X 70 2 s2 acc.length (tkc acc) ∧ acc.length ≤ i ∧ Below X w wr)
  case atStart =>
    refine ⟨0, false, [], rfl, rfl, Nat.zero_le _, Nat.le_refl _, ?_, World.ownsRow_nil _ _ _ _, Nat.le_refl _, Below.refl _ _⟩
    rw [List.drop_zero]
    simp
  case round =>
    obtain ⟨i, j, acc, rfl, rfl, hiS, hG, hrt, hown, hacc, hbel⟩ := hrel
    have HG := Lib.hid hG
    have HRT := Lib.hid hrt
    have HOW := Lib.hid hown
    have HB := Lib.hid hbel
    have hXr : X ≤ wr.heap.size := by have := hbel.size; have := HX.out; omega
    clear hG hrt hown hbel
    by_cases hlt' : i < S.size
    · have hlti : (i : Int) < S.size := by omega
      have hlti1 : (i : Int) + 1 ≤ S.size := by omega
      have hdr := drop_at hlt'
      obtain ⟨g, hg⟩ : ∃ g, gk - 1 = g + 1 := ⟨gk - 2, by have := HG.out; omega⟩
      have HGG := Lib.hid hg
      have hrt := HRT.out
      rw [hg, hdr] at hrt
      have HRT2 := Lib.hid hrt
      have hc1 := ext_sub S i 1
      rw [hdr] at hc1
      have hc1' : S.extract i (i + 1) = ⟨#[S[i]]⟩ := hc1
      have HDR := Lib.hid hdr
      generalize hcc : S[i] = c at *
      clear hg hrt hdr hc1 HRT
      have HC1 := Lib.hid hc1'
      clear hc1'
      -- the first test
      by_cases hb : blk c = true
      · have hn := hb
        unfold blk at hn
        simp at hn
        have HBL := Lib.hid hb
        have hgu : ((c.toNat : Int) == 32) = true ∨ ((c.toNat : Int) == 32) = false ∧ (((c.toNat : Int) == 9) = true ∨ ((c.toNat : Int) == 9) = false ∧ (((c.toNat : Int) == 10) = true ∨ ((c.toNat : Int) == 10) = false ∧ ((c.toNat : Int) == 13) = true)) := by
          by_cases e1 : c.toNat = 32
          · left; simp; omega
          · right; refine ⟨by simp; omega, ?_⟩
            by_cases e2 : c.toNat = 9
            · left; simp; omega
            · right; refine ⟨by simp; omega, ?_⟩
              by_cases e3 : c.toNat = 10
              · left; simp; omega
              · right; exact ⟨by simp; omega, by simp; omega⟩
        clear hn hb
        have hfin : S.size - (i + 1) + 1 ≤ gk - 1 ∧ rtk S.size false S.data.toList = (rtk (gk - 1 - 1) false (S.data.toList.drop (i + 1))).map (acc ++ ·) := by
          refine ⟨by have := HG.out; omega, ?_⟩
          rw [HRT2.out, rtk_blk HBL.out, show gk - 1 - 1 = g from by have := HGG.out; omega]
        have HF := Lib.hid hfin
        clear hfin
        go_upto_region 7 with fail
        go_cut [29] (fun s29 wx => wx = wr ∧ s29 = .bool true)
        case first =>
          rcases hgu with h1 | ⟨h1, h2 | ⟨h2, h3 | ⟨h3, h4⟩⟩⟩
          all_goals
            go_wp2
            go_meet
            exact ⟨rfl, rfl⟩
        case rest =>
          obtain ⟨rfl, rfl⟩ := hcut
          clear hgu
          go_wp2
          go_roundg (gk - 1)
          case measure => have := HG.out; omega
          case rel => exact ⟨i + 1, false, acc, by go_num, rfl, by omega, HF.out.1, HF.out.2, HOW.out, by omega, HB.out⟩
      · have hbf : blk c = false := by simpa using hb
        have HBF := Lib.hid hbf
        unfold blk at hb
        simp at hb
        have n1 : ((c.toNat : Int) == 32) = false := by simp; omega
        have n2 : ((c.toNat : Int) == 9) = false := by simp; omega
        have n3 : ((c.toNat : Int) == 10) = false := by simp; omega
        have n4 : ((c.toNat : Int) == 13) = false := by simp; omega
        clear hb hbf
        by_cases hs : sgB c = true
        · have hn := hs
          unfold sgB at hn
          simp at hn
          have HS := Lib.hid hs
          have hc : c = 40 ∨ c = 41 ∨ c = 44 ∨ c = 45 := by
            rcases hn with ((h | h) | h) | h
            · exact .inl (UInt8.toNat_inj.1 h)
            · exact .inr (.inl (UInt8.toNat_inj.1 h))
            · exact .inr (.inr (.inl (UInt8.toNat_inj.1 h)))
            · exact .inr (.inr (.inr (UInt8.toNat_inj.1 h)))
          clear hn hs n1 n2 n3 n4
          by_cases hbad : c = 45 ∧ j = true
          · obtain ⟨rfl, rfl⟩ := hbad
            have hno : rtk S.size false S.data.toList = none := by
              rw [HRT2.out, rtk_sgbad (by decide) (by decide) (by decide)]
              rfl
            have HNO := Lib.hid hno
            clear hc hno
            go_wp2
            refine bodyPost_ret (results_tmp2 rfl _ _ _) rfl ?_
            exact ⟨tkOut_none HNO.out rfl, HB.out⟩
          · have hstep : S.size - (i + 1) + 1 ≤ gk - 1 ∧ rtk S.size false S.data.toList = (rtk (gk - 1 - 1) false (S.data.toList.drop (i + 1))).map (acc ++ [(c.toNat, ⟨#[c]⟩)] ++ ·) := by
              refine ⟨by have := HG.out; omega, ?_⟩
              rw [HRT2.out, rtk_sg HBF.out HS.out (by rintro ⟨h1, h2⟩; exact hbad ⟨UInt8.toNat_inj.1 h1, h2⟩), map_app, show gk - 1 - 1 = g from by have := HGG.out; omega]
            have HST := Lib.hid hstep
            clear hstep
            have hj : c ≠ 45 ∨ j = false := by
              by_cases h : c = 45
              · right
                cases j with
                | false => rfl
                | true => exact absurd ⟨h, rfl⟩ hbad
              · exact .inl h
            clear hbad
            have hc1 := HC1.out
            rcases hc with rfl | rfl | rfl | rfl
            · clear hj
              go_wp2_with (at_builtin; refine wpList_append_own _ rfl _ _ 49 rfl X 70 i0 (.agg #[.int .u8 0, .string ByteArray.empty]) 2 24 Tryz.underlying49 hi hz0 hz1 hz2 rfl (by decide) _ _ _ rfl (HOW.out.alloc _) ⟨wr.heap.size, 0, none⟩ 1 1 [.int .u8 40, .string ⟨#[40]⟩] rfl rfl ?c1a ?c2a ?c3a ?c4a ?c5a ?_)
              first
                | (case c1a =>
                      intro k u hk
                      match k, hk with
                      | 0, hk => simp at hk; subst hk; simp [Addr.add]
                      | 1, hk => simp at hk; subst hk; simp [Addr.add])
                | skip
              case c2a => first | exact ⟨rfl, rfl⟩ | (intro u hu; simp at hu; rcases hu with rfl | rfl <;> rfl)
              case c3a => unfold maxLen; omega
              case c4a => omega
              case c5a => first | omega | (simp; omega)
              intro v' w5 hown5 hgrow _
              have HO5 := Lib.hid hown5
              have HB5 := Lib.hid ((HB.out.alloc hXr _).grown hgrow (by simp; omega) (fun k e => (HOW.out.lt k e).1))
              clear hown5 hgrow
              go_wp2
              go_roundg (gk - 1)
              case measure => have := HG.out; omega
              case rel => exact ⟨i + 1, false, acc ++ [(40, ⟨#[40]⟩)], by go_num, rfl, by omega, HST.out.1, HST.out.2, by rw [tkc_snoc, List.length_append]; exact HO5.out, by simp; omega, HB5.out⟩
            · clear hj
              go_wp2_with (at_builtin; refine wpList_append_own _ rfl _ _ 49 rfl X 70 i0 (.agg #[.int .u8 0, .string ByteArray.empty]) 2 24 Tryz.underlying49 hi hz0 hz1 hz2 rfl (by decide) _ _ _ rfl (HOW.out.alloc _) ⟨wr.heap.size, 0, none⟩ 1 1 [.int .u8 41, .string ⟨#[41]⟩] rfl rfl ?c1b ?c2b ?c3b ?c4b ?c5b ?_)
              first
                | (case c1b =>
                      intro k u hk
                      match k, hk with
                      | 0, hk => simp at hk; subst hk; simp [Addr.add]
                      | 1, hk => simp at hk; subst hk; simp [Addr.add])
                | skip
              case c2b => first | exact ⟨rfl, rfl⟩ | (intro u hu; simp at hu; rcases hu with rfl | rfl <;> rfl)
              case c3b => unfold maxLen; omega
              case c4b => omega
              case c5b => first | omega | (simp; omega)
              intro v' w5 hown5 hgrow _
              have HO5 := Lib.hid hown5
              have HB5 := Lib.hid ((HB.out.alloc hXr _).grown hgrow (by simp; omega) (fun k e => (HOW.out.lt k e).1))
              clear hown5 hgrow
              go_wp2
              go_roundg (gk - 1)
              case measure => have := HG.out; omega
              case rel => exact ⟨i + 1, false, acc ++ [(41, ⟨#[41]⟩)], by go_num, rfl, by omega, HST.out.1, HST.out.2, by rw [tkc_snoc, List.length_append]; exact HO5.out, by simp; omega, HB5.out⟩
            · clear hj
              go_wp2_with (at_builtin; refine wpList_append_own _ rfl _ _ 49 rfl X 70 i0 (.agg #[.int .u8 0, .string ByteArray.empty]) 2 24 Tryz.underlying49 hi hz0 hz1 hz2 rfl (by decide) _ _ _ rfl (HOW.out.alloc _) ⟨wr.heap.size, 0, none⟩ 1 1 [.int .u8 44, .string ⟨#[44]⟩] rfl rfl ?c1c ?c2c ?c3c ?c4c ?c5c ?_)
              first
                | (case c1c =>
                      intro k u hk
                      match k, hk with
                      | 0, hk => simp at hk; subst hk; simp [Addr.add]
                      | 1, hk => simp at hk; subst hk; simp [Addr.add])
                | skip
              case c2c => first | exact ⟨rfl, rfl⟩ | (intro u hu; simp at hu; rcases hu with rfl | rfl <;> rfl)
              case c3c => unfold maxLen; omega
              case c4c => omega
              case c5c => first | omega | (simp; omega)
              intro v' w5 hown5 hgrow _
              have HO5 := Lib.hid hown5
              have HB5 := Lib.hid ((HB.out.alloc hXr _).grown hgrow (by simp; omega) (fun k e => (HOW.out.lt k e).1))
              clear hown5 hgrow
              go_wp2
              go_roundg (gk - 1)
              case measure => have := HG.out; omega
              case rel => exact ⟨i + 1, false, acc ++ [(44, ⟨#[44]⟩)], by go_num, rfl, by omega, HST.out.1, HST.out.2, by rw [tkc_snoc, List.length_append]; exact HO5.out, by simp; omega, HB5.out⟩
            · obtain rfl : j = false := hj.resolve_left (fun h => h rfl)
              clear hj
              go_wp2_with (at_builtin; refine wpList_append_own _ rfl _ _ 49 rfl X 70 i0 (.agg #[.int .u8 0, .string ByteArray.empty]) 2 24 Tryz.underlying49 hi hz0 hz1 hz2 rfl (by decide) _ _ _ rfl (HOW.out.alloc _) ⟨wr.heap.size, 0, none⟩ 1 1 [.int .u8 45, .string ⟨#[45]⟩] rfl rfl ?c1d ?c2d ?c3d ?c4d ?c5d ?_)
              first
                | (case c1d =>
                      intro k u hk
                      match k, hk with
                      | 0, hk => simp at hk; subst hk; simp [Addr.add]
                      | 1, hk => simp at hk; subst hk; simp [Addr.add])
                | skip
              case c2d => first | exact ⟨rfl, rfl⟩ | (intro u hu; simp at hu; rcases hu with rfl | rfl <;> rfl)
              case c3d => unfold maxLen; omega
              case c4d => omega
              case c5d => first | omega | (simp; omega)
              intro v' w5 hown5 hgrow _
              have HO5 := Lib.hid hown5
              have HB5 := Lib.hid ((HB.out.alloc hXr _).grown hgrow (by simp; omega) (fun k e => (HOW.out.lt k e).1))
              clear hown5 hgrow
              go_wp2
              go_roundg (gk - 1)
              case measure => have := HG.out; omega
              case rel => exact ⟨i + 1, false, acc ++ [(45, ⟨#[45]⟩)], by go_num, rfl, by omega, HST.out.1, HST.out.2, by rw [tkc_snoc, List.length_append]; exact HO5.out, by simp; omega, HB5.out⟩
        · have hsf : sgB c = false := by simpa using hs
          have HSF := Lib.hid hsf
          unfold sgB at hs
          simp at hs
          have n5 : ((c.toNat : Int) == 40) = false := by simp; omega
          have n6 : ((c.toNat : Int) == 41) = false := by simp; omega
          have n7 : ((c.toNat : Int) == 44) = false := by simp; omega
          have n8 : ((c.toNat : Int) == 45) = false := by simp; omega
          clear hs hsf
          obtain ⟨N, hN⟩ : ∃ N, N = wl (c :: S.data.toList.drop (i + 1)) := ⟨_, rfl⟩
          have hNle : i + N ≤ S.size := by
            have := wl_le (c :: S.data.toList.drop (i + 1))
            rw [← hN] at this
            simp only [List.length_cons, List.length_drop, slen] at this
            omega
          have hex := ext_sub S i N
          rw [HDR.out] at hex
          obtain ⟨tt, htt⟩ : ∃ tt : ByteArray, tt = ⟨((c :: S.data.toList.drop (i + 1)).take N).toArray⟩ := ⟨_, rfl⟩
          rw [← htt] at hex
          have HN := Lib.hid hN
          have HTT := Lib.hid htt
          have HEX := Lib.hid hex
          clear hN htt hex
          go_upto_block 2 with fail
          go_cut [2, 4, 5, 7] (fun s2 s4 s5 s7 wx => s4 = .bool j ∧ s5 = .int .i64 i ∧ s7 = .int .i64 N ∧ wx.ownsRow X 70 2 s2 (acc.length + 1) (tkc (acc ++ [(kdB c, tt)])) ∧ Below X w wx)
          case first =>
            have hNi : (i : Int) + N ≤ S.size := by omega
            have hNi0 : (i : Int) ≤ (i : Int) + N := by omega
            by_cases hl : letB c = true
            · have HL := Lib.hid hl
              have hNl : N = lets (S.data.toList.drop i) := by
                rw [HN.out, HDR.out]
                exact if_pos hl
              have HNL := Lib.hid hNl
              have hlc := fun w => hlt c w
              clear hNl
              go_wp2_with (go_at_call 29; refine (hlc _).mono ?_; rintro e w' ⟨rfl, hw⟩; have hw := hw.symm; subst hw)
              go_loopg [7] (S.size - i) (fun G s7 wx => ∃ n : Nat, s7 = .int .i64 n ∧ i + n ≤ S.size ∧ G = S.size - (i + n) ∧ lets (S.data.toList.drop i) = n + lets (S.data.toList.drop (i + n)) ∧ wx = wr)
              case atStart => exact ⟨0, rfl, by omega, rfl, by simp, rfl⟩
              case round =>
                obtain ⟨n, rfl, hn1, hn2, hn3, rfl⟩ := hrel
                have HN2 := Lib.hid hn2
                have HN3 := Lib.hid hn3
                clear hn2 hn3 hl
                by_cases hin : i + n < S.size
                · have hin' : (i : Int) + n < S.size := by omega
                  have hstp := lets_at hin
                  have HSTP := Lib.hid hstp
                  generalize hcc' : S[i + n] = c' at *
                  have hlc' := fun w => hlt c' w
                  clear hstp
                  by_cases hl' : letB c' = true
                  · have HL' := Lib.hid hl'
                    go_wp2_with (go_at_call 29; refine (hlc' _).mono ?_; rintro e w' ⟨rfl, hw⟩; have hw := hw.symm; subst hw)
                    go_roundg (gk - 1)
                    case measure => have := HN2.out; omega
                    case rel => exact ⟨n + 1, by go_num, by omega, by have := HN2.out; omega, by rw [HN3.out, HSTP.out, if_pos HL'.out, Nat.add_assoc]; omega, rfl⟩
                  · have hl'' : letB c' = false := by simpa using hl'
                    have hNn : n = N := by
                      rw [HNL.out, HN3.out, HSTP.out, if_neg hl']
                      rfl
                    subst hNn
                    clear hl'
                    have hexx := HEX.out
                    go_wp2_with (first | (go_at_call 29; refine (hlc' _).mono ?_; rintro e w' ⟨rfl, hw⟩; have hw := hw.symm; subst hw) | (at_builtin; refine wpList_append_own _ rfl _ _ 49 rfl X 70 i0 (.agg #[.int .u8 0, .string ByteArray.empty]) 2 24 Tryz.underlying49 hi hz0 hz1 hz2 rfl (by decide) _ _ _ rfl (HOW.out.alloc _) ⟨wr.heap.size, 0, none⟩ 1 1 [.int .u8 97, .string tt] rfl rfl ?c1e ?c2e ?c3e ?c4e ?c5e ?_))
                    first
                      | (case c1e =>
                            intro k u hk
                            match k, hk with
                            | 0, hk => simp at hk; subst hk; simp [Addr.add]
                            | 1, hk => simp at hk; subst hk; simp [Addr.add])
                      | skip
                    case c2e => first | exact ⟨rfl, rfl⟩ | (intro u hu; simp at hu; rcases hu with rfl | rfl <;> rfl)
                    case c3e => unfold maxLen; omega
                    case c4e => omega
                    case c5e => first | omega | (simp; omega)
                    intro v' w5 hown5 hgrow _
                    have HO5 := Lib.hid hown5
                    have HB5 := Lib.hid ((HB.out.alloc hXr _).grown hgrow (by simp; omega) (fun k e => (HOW.out.lt k e).1))
                    clear hown5 hgrow
                    go_wp2
                    go_meet

                    exact ⟨rfl, rfl, rfl, by rw [tkc_snoc, kdB_let HL.out]; exact HO5.out, HB5.out⟩
                · have hin' : ¬ (i : Int) + n < S.size := by omega
                  have hNn : n = N := by
                    rw [HNL.out, HN3.out, drop_end (by omega)]
                    rfl
                  subst hNn
                  have hexx := HEX.out
                  go_wp2_with (at_builtin; refine wpList_append_own _ rfl _ _ 49 rfl X 70 i0 (.agg #[.int .u8 0, .string ByteArray.empty]) 2 24 Tryz.underlying49 hi hz0 hz1 hz2 rfl (by decide) _ _ _ rfl (HOW.out.alloc _) ⟨wr.heap.size, 0, none⟩ 1 1 [.int .u8 97, .string tt] rfl rfl ?c1f ?c2f ?c3f ?c4f ?c5f ?_)
                  first
                    | (case c1f =>
                          intro k u hk
                          match k, hk with
                          | 0, hk => simp at hk; subst hk; simp [Addr.add]
                          | 1, hk => simp at hk; subst hk; simp [Addr.add])
                    | skip
                  case c2f => first | exact ⟨rfl, rfl⟩ | (intro u hu; simp at hu; rcases hu with rfl | rfl <;> rfl)
                  case c3f => unfold maxLen; omega
                  case c4f => omega
                  case c5f => first | omega | (simp; omega)
                  intro v' w5 hown5 hgrow _
                  have HO5 := Lib.hid hown5
                  have HB5 := Lib.hid ((HB.out.alloc hXr _).grown hgrow (by simp; omega) (fun k e => (HOW.out.lt k e).1))
                  clear hown5 hgrow
                  go_wp2
                  go_meet

                  exact ⟨rfl, rfl, rfl, by rw [tkc_snoc, kdB_let HL.out]; exact HO5.out, HB5.out⟩
            · have hl' : letB c = false := by simpa using hl
              have HL := Lib.hid hl'
              have hNd : decN (S.data.toList.drop i) = N := by
                rw [HN.out, HDR.out]
                exact (if_neg hl).symm
              have hdc := fun w => dec_sub w S i hsz
              rw [hNd] at hdc
              have hlc := fun w => hlt c w
              have hexx := HEX.out
              have hii : (i : Int) ≤ S.size := by omega
              clear hNd hl
              go_wp2_with (first | (go_at_call 29; refine (hlc _).mono ?_; rintro e w' ⟨rfl, hw⟩; have hw := hw.symm; subst hw) | (go_at_call 30; refine (hdc _).mono ?_; rintro e w' ⟨rfl, hw⟩; have hw := hw.symm; subst hw) | (at_builtin; refine wpList_append_own _ rfl _ _ 49 rfl X 70 i0 (.agg #[.int .u8 0, .string ByteArray.empty]) 2 24 Tryz.underlying49 hi hz0 hz1 hz2 rfl (by decide) _ _ _ rfl (HOW.out.alloc _) ⟨wr.heap.size, 0, none⟩ 1 1 [.int .u8 49, .string tt] rfl rfl ?c1g ?c2g ?c3g ?c4g ?c5g ?_))
              first
                | (case c1g =>
                      intro k u hk
                      match k, hk with
                      | 0, hk => simp at hk; subst hk; simp [Addr.add]
                      | 1, hk => simp at hk; subst hk; simp [Addr.add])
                | skip
              case c2g => first | exact ⟨rfl, rfl⟩ | (intro u hu; simp at hu; rcases hu with rfl | rfl <;> rfl)
              case c3g => unfold maxLen; omega
              case c4g => omega
              case c5g => first | omega | (simp; omega)
              intro v' w5 hown5 hgrow _
              have HO5 := Lib.hid hown5
              have HB5 := Lib.hid ((HB.out.alloc hXr _).grown hgrow (by simp; omega) (fun k e => (HOW.out.lt k e).1))
              clear hown5 hgrow
              go_wp2
              go_meet

              exact ⟨rfl, rfl, rfl, by rw [tkc_snoc, kdB_num HL.out]; exact HO5.out, HB5.out⟩
          case rest =>
            obtain ⟨rfl, rfl, rfl, hO5, hB5⟩ := hcut
            have HO5 := Lib.hid hO5
            have HB5 := Lib.hid hB5
            clear hO5 hB5 n1 n2 n3 n4 n5 n6 n7 n8
            by_cases hbad : N = 0 ∨ j = true
            · have hno : rtk S.size false S.data.toList = none := by
                rw [HRT2.out, rtk_wdbad HBF.out HSF.out (by rw [← HN.out]; exact hbad)]
                rfl
              have HNO := Lib.hid hno
              clear hno
              by_cases h0 : N = 0
              · have h0' : ((N : Int) == 0) = true := by simp; omega
                clear hbad h0
                go_wp2
                refine bodyPost_ret (results_tmp2 rfl _ _ _) rfl ?_
                exact ⟨tkOut_none HNO.out rfl, HB5.out⟩
              · obtain rfl : j = true := hbad.resolve_left h0
                have h0' : ((N : Int) == 0) = false := by simp; omega
                clear hbad h0
                go_wp2
                refine bodyPost_ret (results_tmp2 rfl _ _ _) rfl ?_
                exact ⟨tkOut_none HNO.out rfl, HB5.out⟩
            · have h0 : N ≠ 0 := fun h => hbad (.inl h)
              obtain rfl : j = false := by
                cases j with
                | false => rfl
                | true => exact absurd (.inr rfl) hbad
              have h0' : ((N : Int) == 0) = false := by simp; omega
              have hstep : S.size - (i + N) + 1 ≤ gk - 1 ∧ rtk S.size false S.data.toList = (rtk (gk - 1 - 1) true (S.data.toList.drop (i + N))).map (acc ++ [(kdB c, tt)] ++ ·) := by
                refine ⟨by have := HG.out; omega, ?_⟩
                rw [HRT2.out, rtk_wd HBF.out HSF.out (by rw [← HN.out]; exact hbad), map_app, ← HN.out, ← HTT.out, ← HDR.out, List.drop_drop, show gk - 1 - 1 = g from by have := HGG.out; omega]
              have HST := Lib.hid hstep
              clear hstep hbad
              go_wp2
              go_roundg (gk - 1)
              case measure => have := HG.out; omega
              case rel => exact ⟨i + N, true, acc ++ [(kdB c, tt)], by go_num, rfl, by omega, HST.out.1, HST.out.2, by rw [List.length_append]; exact HO5.out, by simp; omega, HB5.out⟩
    · have him : i = S.size := by omega
      have hlti : ¬ (i : Int) < S.size := by omega
      have hrt := HRT.out
      rw [drop_end (by omega), rtk_nil, Option.map_some, List.append_nil] at hrt
      have HR := Lib.hid hrt
      clear hrt him hlt'
      go_wp2
      refine bodyPost_ret (results_tmp2 rfl _ _ _) rfl ?_
      exact ⟨tkOut_some HR.out ⟨_, rfl, HOW.out, by omega⟩, HB.out⟩
end Go.Proofs.YthfjakbpeclfcaaGreatDoor

namespace Go.Proofs.YthfjakbpeclfcaaGreatDoor
open Go.RowKit Go

theorem tkc_at : ∀ (L : List (Nat × ByteArray)) (i : Nat) (p : Nat × ByteArray), L[i]? = some p → (tkc L)[i * 2]? = some (.int .u8 p.1) ∧ (tkc L)[i * 2 + 1]? = some (.string p.2)
  | [], i, p, h => by cases h
  | a :: t, 0, p, h => by
    simp at h
    subst h
    exact ⟨rfl, rfl⟩
  | a :: t, i + 1, p, h => by
    have := tkc_at t i p h
    rw [show (i + 1) * 2 = i * 2 + 1 + 1 from by omega]
    exact this
theorem padP_npad {S : ByteArray} (h : ¬ padP S) : NPad S.data.toList := by
  refine pad_npad (fun h1 h2 => ?_)
  rcases Nat.eq_zero_or_pos (dcnt (S.data.toList.drop 1)) with h3 | h3
  · exact h3
  · exact absurd ⟨h1, h2, h3⟩ h
theorem tw_room {t : Nat × ByteArray} (h : TW t) (hk : t.1 = 49) : ERoom t.2 := by
  cases h with
  | sg c h =>
    exfalso
    unfold sgB at h
    simp at h hk
    omega
  | word c M h => cases hk
  | num M E x hM hE => exact eroom (M := M) (E := E) (by simp) hM hE
theorem tw_byte {t : Nat × ByteArray} (h : TW t) : t.1 < 256 := by
  cases h with
  | sg c h => exact c.toNat_lt
  | word c M h => exact (by decide : 97 < 256)
  | num M E x hM hE => exact (by decide : 49 < 256)

set_option maxHeartbeats 4000000 in
set_option maxRecDepth 100000 in
theorem ask_any (S : ByteArray) (w : World) (hsz : S.size ≤ 100000) :
    Calls Tryz.prog 15 #[.string S] w fun e w' => (∃ b, e = .returned (.bool b) ∧ (b = true → ∃ ts, rtk S.size false S.data.toList = some ts ∧ ∀ t ∈ ts, NPadT t)) ∧ Below w.heap.size w w' := by
  have htk := tok_any S w hsz
  go_enter Tryz.func15, Tryz.ntmps15
  go_wp2_with fail
  refine htk.mono ?_
  rintro e w1 ⟨h1, hb1⟩
  unfold tkOut at h1
  cases hr : rtk S.size false S.data.toList with
  | none =>
    rw [hr] at h1
    subst h1
    have HB := Lib.hid hb1
    clear htk hb1 hr
    go_wp2
    go_loopg [15] 1 (fun G s15 wr => s15 = .int .i64 0 ∧ wr = w1)
    case atStart => exact ⟨rfl, rfl⟩
    obtain ⟨rfl, rfl⟩ := hrel
    go_wp2
    go_ret
    exact ⟨⟨false, rfl, fun h => by cases h⟩, HB.out⟩
  | some ts =>
    rw [hr] at h1
    obtain ⟨v, rfl, hown, hlen⟩ := h1
    obtain ⟨ao, cp, rfl⟩ := ownsRow_slice hown
    have htw := (rtk_RT hr).tw
    have hszs : ∀ t ∈ ts, t.2.size ≤ S.size := by
      have := (rtk_RT hr).sz.1
      rw [slen] at this
      exact this
    have HTW := Lib.hid htw
    have HSZ := Lib.hid hszs
    have HR := Lib.hid hr
    have HO := Lib.hid hown
    have HB := Lib.hid hb1
    clear htk hb1 hr htw hown hszs
    go_wp2
    go_loopg [15] ts.length (fun G s15 wr => ∃ i : Nat, s15 = .int .i64 i ∧ i + G = ts.length ∧ (∀ k t, k < i → ts[k]? = some t → NPadT t) ∧ Below w.heap.size w wr ∧ wr.ownsRow w.heap.size 70 2 (.slice ao ts.length cp) ts.length (tkc ts))
    case atStart => exact ⟨0, rfl, by omega, fun k t h => absurd h (Nat.not_lt_zero _), HB.out, HO.out⟩
    case round =>
      obtain ⟨i, rfl, hi, hnp, hb, hown⟩ := hrel
      have HI := Lib.hid hi
      have HNP := Lib.hid hnp
      have HBR := Lib.hid hb
      have HOW := Lib.hid hown
      clear hi hnp hb hown HB HO
      by_cases hlt : i < ts.length
      · have hlt' : (i : Int) < ts.length := by omega
        obtain ⟨t, ht⟩ : ∃ t, ts[i]? = some t := ⟨_, List.getElem?_eq_getElem hlt⟩
        obtain ⟨r0, r1⟩ := tkc_at ts i t ht
        obtain ⟨g, cp', hform, hg1, hg2⟩ := HOW.out.form (by omega)
        injection hform with hao hn hcp
        subst hao hcp
        have c0 := (HOW.out.cellAt (i * 2) (by omega)).trans r0
        have c1 := (HOW.out.cellAt (i * 2 + 1) (by omega)).trans r1
        have htm := List.mem_of_getElem? ht
        have hts := HSZ.out t htm
        have hup := fun w => up_any t.2 w (by omega)
        have hpad : ∀ w, t.1 = 49 → Calls Tryz.prog 28 #[.string t.2] w fun e w' => (∃ b, e = .returned (.bool b) ∧ (b = false → ¬ padP t.2)) ∧ w' = w := fun w h => pad_any t.2 w (by omega) (tw_room (HTW.out t htm) h)
        have HPAD := Lib.hid hpad
        have HT := Lib.hid ht
        clear ht r0 r1 htm hts hpad
        obtain ⟨kd, tx⟩ := t
        have hnew : ∀ w2, Below (wr.alloc (.cells #[.int .u8 kd, .string tx] 70)).heap.size (wr.alloc (.cells #[.int .u8 kd, .string tx] 70)) w2 → w2.heap[wr.heap.size]? = some (.cells #[.int .u8 kd, .string tx] 70 (0, 0)) ∧ Below wr.heap.size wr w2 := fun w2 h =>
          ⟨(h.block _ (by simp)).trans (heap_alloc_new _ _), ((Below.refl _ _).alloc (Nat.le_refl _) _).trans (below_far h (by simp))⟩
        have HNEW := Lib.hid hnew
        clear hnew
        go_wp2_with fail
        refine (hup _).mono ?_
        rintro e w2 ⟨rfl, hb2⟩
        obtain ⟨hblk, hb2⟩ := HNEW.out w2 hb2
        obtain ⟨d0, d1⟩ : w2.cell? ⟨wr.heap.size, 0, none⟩ = some (.int .u8 kd) ∧ w2.cell? ⟨wr.heap.size, 1, none⟩ = some (.string tx) := by
          constructor
          · rw [Lib.cell_of_heap hblk]; rfl
          · rw [Lib.cell_of_heap hblk]; rfl
        have HB2 := Lib.hid hb2
        clear hblk hb2 hup c0 c1
        go_upto_region 6 with fail
        go_cut [51] (fun s51 wx => ∃ b, s51 = .bool b ∧ (b = false → kd = 49 → ¬ padP tx) ∧ wx = w2)
        case first =>
          have hq : ∀ (a b : ByteArray), ((a.toList == b.toList) = true ∧ (a.toList != b.toList) = false) ∨ ((a.toList == b.toList) = false ∧ (a.toList != b.toList) = true) := by
            intro a b
            cases h : (a.toList == b.toList)
            · exact .inr ⟨rfl, by simp [bne, h]⟩
            · exact .inl ⟨rfl, by simp [bne, h]⟩
          have hk : ∀ (a : ByteArray) (l : List UInt8), (a.toList == l) = true ∨ (a.toList == l) = false := fun a l => by cases (a.toList == l) <;> simp
          have q0 := hq (upS tx) tx
          have q1 := hk (upS tx) [69, 77, 80, 84, 89]
          have q2 := hk (upS tx) [90]
          have q3 := hk (upS tx) [77]
          have q4 := hk (upS tx) [90, 77]
          generalize upS tx = U at *
          have fin1 : ∀ b, kd ≠ 49 → (b = false → kd = 49 → ¬ padP tx) := fun b h _ h2 => absurd h2 h
          by_cases hk9 : kd = 49
          · subst hk9
            have hp := fun w => HPAD.out w rfl
            go_wp2_with fail
            refine (hp _).mono ?_
            rintro e w' ⟨⟨b1, rfl, hb1⟩, hw⟩
            have hw := hw.symm
            subst hw
            cases b1 with
            | true =>
              go_wp2
              go_meet
              exact ⟨true, rfl, fun h => (by cases h), rfl⟩
            | false =>
              have HP := Lib.hid (hb1 rfl)
              clear hb1
              rcases q0 with ⟨qa, qb⟩ | ⟨qa, qb⟩
              · go_wp2
                go_meet
                exact ⟨_, rfl, fun _ _ => HP.out, rfl⟩
              · rcases q1 with q1 | q1
                · go_wp2
                  go_meet
                  exact ⟨_, rfl, fun _ _ => HP.out, rfl⟩
                · rcases q2 with q2 | q2
                  · go_wp2
                    go_meet
                    exact ⟨_, rfl, fun _ _ => HP.out, rfl⟩
                  · rcases q3 with q3 | q3
                    · go_wp2
                      go_meet
                      exact ⟨_, rfl, fun _ _ => HP.out, rfl⟩
                    · rcases q4 with q4 | q4
                      · go_wp2
                        go_meet
                        exact ⟨_, rfl, fun _ _ => HP.out, rfl⟩
                      · go_wp2
                        go_meet
                        exact ⟨_, rfl, fun _ _ => HP.out, rfl⟩
          · have hk9' : ((kd : Int) == 49) = false := by simp; omega
            have HK := Lib.hid hk9
            clear fin1 hk9
            rcases q0 with ⟨qa, qb⟩ | ⟨qa, qb⟩
            · go_wp2
              go_meet
              exact ⟨_, rfl, fun _ h => absurd h HK.out, rfl⟩
            · rcases q1 with q1 | q1
              · go_wp2
                go_meet
                exact ⟨_, rfl, fun _ h => absurd h HK.out, rfl⟩
              · rcases q2 with q2 | q2
                · go_wp2
                  go_meet
                  exact ⟨_, rfl, fun _ h => absurd h HK.out, rfl⟩
                · rcases q3 with q3 | q3
                  · go_wp2
                    go_meet
                    exact ⟨_, rfl, fun _ h => absurd h HK.out, rfl⟩
                  · rcases q4 with q4 | q4
                    · go_wp2
                      go_meet
                      exact ⟨_, rfl, fun _ h => absurd h HK.out, rfl⟩
                    · go_wp2
                      go_meet
                      exact ⟨_, rfl, fun _ h => absurd h HK.out, rfl⟩
        case rest =>
          obtain ⟨b, rfl, hbp, rfl⟩ := hcut
          cases b with
          | true =>
            have HBW := Lib.hid (HBR.out.trans (below_far HB2.out HBR.out.size))
            clear hbp
            go_wp2
            go_ret
            exact ⟨⟨false, rfl, fun h => (by cases h)⟩, HBW.out⟩
          | false =>
            have hbp := hbp rfl
            have HBW := Lib.hid (HBR.out.trans (below_far HB2.out HBR.out.size))
            have HO2 := Lib.hid (ownsRow_far HOW.out HB2.out)
            have hnp2 : ∀ k t, k < i + 1 → ts[k]? = some t → NPadT t := by
              intro k t hk hkt
              by_cases e : k = i
              · subst e
                rw [HT.out] at hkt
                injection hkt with hkt
                subst hkt
                exact fun h => padP_npad (hbp h)
              · exact HNP.out k t (by omega) hkt
            have HN2 := Lib.hid hnp2
            clear hbp hnp2
            go_wp2
            go_roundg (gk - 1)
            case measure => have := HI.out; omega
            case rel => exact ⟨i + 1, by go_num, by have := HI.out; omega, HN2.out, HBW.out, HO2.out⟩
      · have hlt' : ¬ (i : Int) < ts.length := by omega
        have hall : ∀ t ∈ ts, NPadT t := by
          intro t ht
          obtain ⟨k, hk⟩ := List.mem_iff_getElem?.1 ht
          have := (List.getElem?_eq_some_iff.1 hk).1
          exact HNP.out k t (by omega) hk
        have HA := Lib.hid hall
        clear hall
        go_wp2
        go_ret
        exact ⟨.inr ⟨rfl, ts, HR.out, fun a b h => HA.out _ h⟩, HBR.out⟩

theorem inf9 : (Tryz.prog.info? 9).map (fun i => (i.zero, i.size, i.bytes)) = some (some (.string ByteArray.empty), 1, 16) := by kernel_rfl
def strs (l : List ByteArray) : List Value := l.map .string
theorem strs_len (l : List ByteArray) : (strs l).length = l.length := by simp [strs]
theorem strs_snoc (l : List ByteArray) (t : ByteArray) : strs (l ++ [t]) = strs l ++ [.string t] := by simp [strs]
def tksOut (X : Nat) (S : ByteArray) (e : Ending) (w' : World) : Prop :=
  match rtk S.size false S.data.toList with
  | some ts => ∃ v, e = .returned (.tuple #[v, .bool true]) ∧ w'.ownsRow X 9 1 v ts.length (strs (ts.map (·.2)))
  | none => e = .returned (.tuple #[.slice none 0 0, .bool false])
set_option maxHeartbeats 4000000 in
set_option maxRecDepth 100000 in
theorem tks_any (S : ByteArray) (w : World) (hsz : S.size ≤ 100000) :
    Calls Tryz.prog 16 #[.string S] w fun e w' => tksOut w.heap.size S e w' ∧ Below w.heap.size w w' := by
  obtain ⟨i0, hi, hz0, hz1, hz2⟩ := info_parts inf9
  have htk := tok_any S w hsz
  go_enter Tryz.func16, Tryz.ntmps16
  go_wp2_with fail
  refine htk.mono ?_
  rintro e w1 ⟨h1, hb1⟩
  unfold tkOut at h1
  cases hr : rtk S.size false S.data.toList with
  | none =>
    rw [hr] at h1
    subst h1
    have HB := Lib.hid hb1
    have HR := Lib.hid hr
    clear htk hb1 hr
    go_wp2
    go_loopg [2, 14] 1 (fun G s2 s14 wr => s2 = .slice none 0 0 ∧ s14 = .int .i64 0 ∧ wr = w1)
    case atStart => exact ⟨rfl, rfl, rfl⟩
    obtain ⟨rfl, rfl, rfl⟩ := hrel
    go_wp2
    refine bodyPost_ret (results_tmp2 rfl _ _ _) rfl ?_
    exact ⟨by unfold tksOut; rw [HR.out]; rfl, HB.out⟩
  | some ts =>
    rw [hr] at h1
    obtain ⟨v, rfl, hown, hlen⟩ := h1
    obtain ⟨ao, cp, rfl⟩ := ownsRow_slice hown
    have HO := Lib.hid hown
    have HB := Lib.hid hb1
    have HR := Lib.hid hr
    clear htk hb1 hr hown
    go_wp2
    go_loopg [2, 14] ts.length (fun G s2 s14 wr => ∃ i : Nat, s14 = .int .i64 i ∧ i + G = ts.length ∧ wr.ownsRow w.heap.size 9 1 s2 i (strs ((ts.take i).map (·.2))) ∧ Below w.heap.size w wr ∧ wr.ownsRow w.heap.size 70 2 (.slice ao ts.length cp) ts.length (tkc ts))
    case atStart => exact ⟨0, rfl, by omega, World.ownsRow_nil _ _ _ _, HB.out, HO.out⟩
    case round =>
      obtain ⟨i, rfl, hi, hst, hb, hown⟩ := hrel
      have HI := Lib.hid hi
      have HST := Lib.hid hst
      have HBR := Lib.hid hb
      have HOW := Lib.hid hown
      have hXr := hb.size
      clear hi hst hb hown HB HO
      by_cases hlt : i < ts.length
      · have hlt' : (i : Int) < ts.length := by omega
        obtain ⟨t, ht⟩ : ∃ t, ts[i]? = some t := ⟨_, List.getElem?_eq_getElem hlt⟩
        obtain ⟨r0, r1⟩ := tkc_at ts i t ht
        obtain ⟨g, cp', hform, hg1, hg2⟩ := HOW.out.form (by omega)
        injection hform with hao hn hcp
        subst hao hcp
        have c0 := (HOW.out.cellAt (i * 2) (by omega)).trans r0
        have c1 := (HOW.out.cellAt (i * 2 + 1) (by omega)).trans r1
        have htk : (ts.take (i + 1)).map (·.2) = (ts.take i).map (·.2) ++ [t.2] := by
          obtain ⟨h1, h2⟩ := List.getElem?_eq_some_iff.1 ht
          rw [List.take_add_one, ht]
          simp
        have HT := Lib.hid htk
        clear ht r0 r1 htk
        obtain ⟨kd, tx⟩ := t
        go_wp2_with (at_builtin; refine wpList_append_own _ rfl _ _ 25 rfl w.heap.size 9 i0 (.string ByteArray.empty) 1 16 Tryz.underlying25 hi hz0 hz1 hz2 rfl (by decide) _ _ _ rfl ((HST.out.alloc _).alloc _) ⟨wr.heap.size + 1, 0, none⟩ 1 1 [.string tx] rfl rfl ?c1 ?c2 ?c3 ?c4 ?c5 ?_)
        first
          | (case c1 =>
              intro k u hk
              match k, hk with
              | 0, hk => simp at hk; subst hk; simp [Addr.add])
          | skip
        case c2 => first | rfl | (intro u hu; simp at hu; subst hu; rfl)
        case c3 => unfold maxLen; omega
        case c4 => omega
        case c5 => first | omega | (simp; omega)
        intro v' w5 hown5 hgrow _
        have HO5 := Lib.hid hown5
        have HB5 := Lib.hid (((HBR.out.alloc hXr _).alloc (by simp; omega) _).grown hgrow (by simp; omega) (fun k e => (HST.out.lt k e).1))
        have HR5 := Lib.hid (ownsRow_grown (HOW.out.alloc _) (HST.out.alloc _) (by decide) hgrow)
        clear hown5 hgrow
        go_wp2
        go_roundg (gk - 1)
        case measure => have := HI.out; omega
        case rel => exact ⟨i + 1, by go_num, by have := HI.out; omega, by rw [HT.out, strs_snoc, List.map_take]; exact HO5.out, HB5.out, HR5.out⟩
      · have hlt' : ¬ (i : Int) < ts.length := by omega
        have hil : i = ts.length := by have := HI.out; omega
        have hst := HST.out
        rw [hil, List.take_length] at hst
        have HST2 := Lib.hid hst
        clear hst
        go_wp2
        refine bodyPost_ret (results_tmp2 rfl _ _ _) rfl ?_
        exact ⟨by unfold tksOut; rw [HR.out]; exact ⟨_, rfl, HST2.out⟩, HBR.out⟩

def pTok (X : Nat) (S : ByteArray) (e : Ending) (w' : World) : Prop :=
  e = .returned (.tuple #[.slice none 0 0, .bool false]) ∨
  ∃ ts v, rtk S.size false S.data.toList = some ts ∧ (∀ t ∈ ts, NPadT t) ∧ S.size ≤ 2000 ∧ e = .returned (.tuple #[v, .bool true]) ∧ w'.ownsRow X 9 1 v ts.length (strs (ts.map (·.2)))
set_option maxHeartbeats 1000000 in
set_option maxRecDepth 100000 in
theorem ptk_any (S : ByteArray) (w : World) :
    Calls Tryz.prog 6 #[.string S] w fun e w' => pTok w.heap.size S e w' ∧ Below w.heap.size w w' := by
  by_cases hs : S.size ≤ 2000
  · have hs' : ¬ (2000 : Int) < S.size := by omega
    have hsz : S.size ≤ 100000 := by omega
    have hak := ask_any S w hsz
    have htk := fun w => tks_any S w hsz
    have HS := Lib.hid hs
    clear hs hsz
    go_enter Tryz.func6, Tryz.ntmps6
    go_wp2_with fail
    refine hak.mono ?_
    rintro e w1 ⟨⟨b, rfl, hb⟩, hb1⟩
    have HB1 := Lib.hid hb1
    cases b with
    | false =>
      clear hak htk hb hb1
      go_wp2
      refine bodyPost_ret (results_tmp2 rfl _ _ _) rfl ?_
      exact ⟨.inl rfl, HB1.out⟩
    | true =>
      obtain ⟨ts, hr, hnp⟩ := hb rfl
      clear hak hb hb1
      go_wp2_with fail
      refine (htk _).mono ?_
      rintro e w2 ⟨h2, hb2⟩
      unfold tksOut at h2
      rw [hr] at h2
      obtain ⟨v, rfl, hown⟩ := h2
      have HR := Lib.hid hr
      have HNP := Lib.hid hnp
      have HO := Lib.hid (ownsRow_mono hown HB1.out.size)
      have HB2 := Lib.hid (HB1.out.trans (below_far hb2 HB1.out.size))
      clear htk hr hnp hown hb2
      go_wp2
      refine bodyPost_ret (results_tmp2 rfl _ _ _) rfl ?_
      exact ⟨.inr ⟨ts, v, HR.out, HNP.out, HS.out, rfl, HO.out⟩, HB2.out⟩
  · have hs' : (2000 : Int) < S.size := by omega
    clear hs
    go_enter Tryz.func6, Tryz.ntmps6
    go_wp2
    refine bodyPost_ret (results_tmp2 rfl _ _ _) rfl ?_
    exact ⟨.inl rfl, Below.refl _ _⟩
end Go.Proofs.YthfjakbpeclfcaaGreatDoor
