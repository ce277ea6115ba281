/-
  The library's decimal.set on a decimal of the grammar.
-/
import Derived.Test.YthfjakbpeclfcaaGreatDoorRf
namespace Go.Proofs.YthfjakbpeclfcaaGreatDoor
open Go.RowKit Go

structure DS where
  L : List Int
  dp : Int
  dot : Bool
  dg : Bool
  tr : Bool
def ds0 : DS := ⟨[], 0, false, false, false⟩
def dStep (s : DS) (c : UInt8) : DS :=
  if c.toNat = 46 then { s with dot := true, dp := s.L.length }
  else if c.toNat = 48 ∧ s.L.length = 0 then { s with dg := true, dp := s.dp - 1 }
  else if s.L.length < 800 then { s with dg := true, L := s.L ++ [(c.toNat : Int)] }
  else { s with dg := true, tr := if c.toNat = 48 then s.tr else true }

theorem DecAt.raw {w : World} {g : Nat} {L : List Int} {dp : Int} {ng tr : Bool} (h : DecAt w g L dp ng tr) : ∃ D, RawAt w g D L.length dp ng tr ∧ digs D L.length = L := h
theorem dec_dp {w : World} {g : Nat} {L : List Int} {dp : Int} {ng tr : Bool} (h : DecAt w g L dp ng tr) (x : Int) : DecAt (w.setCell ⟨g, 801, none⟩ (.int .i64 x)) g L x ng tr := by
  obtain ⟨D, a, b⟩ := h
  exact ⟨D, a.setDp x, b⟩
theorem dec_tr {w : World} {g : Nat} {L : List Int} {dp : Int} {ng tr : Bool} (h : DecAt w g L dp ng tr) (x : Bool) : DecAt (w.setCell ⟨g, 803, none⟩ (.bool x)) g L dp ng x := by
  obtain ⟨D, a, b⟩ := h
  exact ⟨D, a.setTr x, b⟩
theorem dec_drew {w : World} {g : Nat} {L : List Int} {dp : Int} {ng tr : Bool} (h : DecAt w g L dp ng tr) (n : Nat) : DecAt (w.drewN n) g L dp ng tr := by
  obtain ⟨D, a, b⟩ := h
  exact ⟨D, a.drewN n, b⟩
theorem dec_push {w : World} {g : Nat} {L : List Int} {dp : Int} {ng tr : Bool} (h : DecAt w g L dp ng tr) (hL : L.length < 800) (x : Int) :
    DecAt ((w.setCell ⟨g, L.length, none⟩ (.int .u8 x)).setCell ⟨g, 800, none⟩ (.int .i64 ((L.length : Int) + 1))) g (L ++ [x]) dp ng tr := by
  obtain ⟨D, a, b⟩ := h
  refine ⟨upd D L.length x, ?_, ?_⟩
  · have := (a.setDig hL x).setNd ((L.length : Int) + 1)
    rw [List.length_append]
    exact this
  · rw [List.length_append, List.length_singleton, digs_succ]
    have e1 : digs (upd D L.length x) L.length = digs D L.length := digs_congr fun i hi => by unfold upd; rw [if_neg (by omega)]
    have e2 : upd D L.length x L.length = x := by unfold upd; rw [if_pos rfl]
    rw [e1, e2, b]
theorem dec_cells {w : World} {g : Nat} {L : List Int} {dp : Int} {ng tr : Bool} (h : DecAt w g L dp ng tr) :
    w.cell? ⟨g, 800, none⟩ = some (.int .i64 L.length) ∧ w.cell? ⟨g, 801, none⟩ = some (.int .i64 dp) ∧ w.cell? ⟨g, 802, none⟩ = some (.bool ng) ∧ w.cell? ⟨g, 803, none⟩ = some (.bool tr) ∧
    (∀ i, i < 800 → ∃ x, w.cell? ⟨g, i, none⟩ = some (.int .u8 x)) ∧ ∀ i, w.frozen? ⟨g, i, none⟩ = false := by
  obtain ⟨D, a, b⟩ := h
  exact ⟨a.cnd, a.cdp, a.cng, a.ctr, fun i hi => ⟨D i, a.dig hi⟩, a.frz⟩

set_option maxHeartbeats 8000000 in
set_option maxRecDepth 100000 in
theorem ds_num (w : World) (g : Nat) (D0 : Nat → Int) (h : RawAt w g D0 ((0 : Nat) : Int) 0 false false) (S : ByteArray) (ng : Bool) (M E : List UInt8) (x : Int) (hl : S.data.toList = (if ng then [45] else []) ++ (M ++ E)) (hM : okM false M) (hg : (M.foldl dStep ds0).dg = true) (hE : ExpIs E x)
    (hsz : S.size ≤ 100000) :
    Calls Tryz.prog 129 #[.pointer (some ⟨g, 0, none⟩), .string S] w fun e w' => e = .returned (.bool true) ∧
      DecAt w' g (M.foldl dStep ds0).L ((if (M.foldl dStep ds0).dot then (M.foldl dStep ds0).dp else (M.foldl dStep ds0).L.length) + x) ng (M.foldl dStep ds0).tr ∧ Only g w w' := by
  obtain ⟨c0, M', rfl⟩ : ∃ c cs, M = c :: cs := by
    cases M with
    | nil => exact absurd hg (by decide)
    | cons c cs => exact ⟨c, cs, rfl⟩
  have hS : S.size = (if ng then 1 else 0) + (M'.length + 1 + E.length) := by
    have : S.data.toList.length = S.size := by cases S; rfl
    rw [← this, hl]
    cases ng <;> simp <;> omega
  have hS0 : 0 < S.size := by cases ng <;> simp at hS <;> omega
  have hS0' : (0 : Int) < S.size := by omega
  have hSe : ¬ S = ByteArray.empty := by
    rintro rfl
    exact absurd hS0 (by decide)
  have hc0 : c0.toNat = 46 ∨ 48 ≤ c0.toNat ∧ c0.toNat ≤ 57 := by
    rcases hM with ⟨h, -, -⟩ | ⟨h1, h2, -⟩
    · exact .inl h
    · exact .inr ⟨h1, h2⟩
  have cng := h.cng
  have ctr := h.ctr
  have f2 := h.frz 802
  have f3 := h.frz 803
  have H := Lib.hid h
  have HL := Lib.hid hl
  have HM := Lib.hid hM
  have HG := Lib.hid hg
  have HE := Lib.hid hE
  have HS := Lib.hid hS
  clear hl hM hg hE hS h
  generalize hV : (if ((c0 :: M').foldl dStep ds0).dot then ((c0 :: M').foldl dStep ds0).dp else (((c0 :: M').foldl dStep ds0).L.length : Int)) + x = v
  generalize hLL : ((c0 :: M').foldl dStep ds0).L = L1
  generalize hTT : ((c0 :: M').foldl dStep ds0).tr = tr1
  have HV := Lib.hid hV
  have HLL := Lib.hid hLL
  have HTT := Lib.hid hTT
  clear hV hLL hTT
  go_enter Tryz.func129, Tryz.ntmps129
  go_upto_block 0 with fail
  go_cut [5] (fun s5 wx => DecAt wx g [] 0 ng false ∧ Only g w wx ∧ s5 = .int .i64 ((if ng then 1 else 0 : Nat) : Int))
  case first =>
    cases ng
    · have hb : S[0] = c0 := byte_at (by rw [HL.out]; rfl) hS0
      have n1 : ((c0.toNat : Int) == 43) = false := by simp; omega
      have n2 : ((c0.toNat : Int) == 45) = false := by simp; omega
      go_wp2
      go_meet
      exact ⟨⟨D0, (H.out.setNg false).setTr false, rfl⟩, ((Only.refl _ _).setCell _ _).setCell _ _, rfl⟩
    · have hb : S[0] = 45 := byte_at (by rw [HL.out]; rfl) hS0
      go_wp2
      go_meet
      exact ⟨⟨D0, ((H.out.setNg false).setTr false).setNg true, rfl⟩, (((Only.refl _ _).setCell _ _).setCell _ _).setCell _ _, rfl⟩
  case rest =>
    obtain ⟨hdec, hon, rfl⟩ := hcut
    obtain ⟨o, ho, hbo, htk⟩ : ∃ o : Nat, (if ng then 1 else 0) = o ∧ S.data.toList.drop o = c0 :: (M' ++ E) ∧ o ≤ 1 := by
      cases ng
      · exact ⟨0, rfl, by rw [HL.out]; rfl, by omega⟩
      · exact ⟨1, rfl, by rw [HL.out]; rfl, by omega⟩
    rw [ho]
    have HO := Lib.hid ho
    have HBO := Lib.hid hbo
    have hs1 : S.size = o + (M'.length + 1 + E.length) := by rw [HS.out, HO.out]
    have HS1 := Lib.hid hs1
    have HDE := Lib.hid hdec
    have HON := Lib.hid hon
    clear ho hbo hs1 hdec hon hc0 cng ctr f2 f3
    go_upto_block 1 with fail
    go_cut [5, 6, 7] (fun s5 s6 s7 wx => ∃ (i : Nat) (s : DS), s5 = .int .i64 i ∧ s6 = .bool s.dot ∧ s7 = .bool s.dg ∧ S.data.toList.drop i = E ∧ i + E.length = S.size ∧ (c0 :: M').foldl dStep ds0 = s ∧
      s.L.length ≤ 100000 ∧ -100000 ≤ s.dp ∧ s.dp ≤ 100000 ∧ DecAt wx g s.L s.dp ng s.tr ∧ Only g w wx)
    case first =>
      go_wp2_with fail
      go_loopg [5, 6, 7] (M'.length + 1) (fun G s5 s6 s7 wr => ∃ (i : Nat) (R : List UInt8) (s : DS), s5 = .int .i64 i ∧ s6 = .bool s.dot ∧ s7 = .bool s.dg ∧ G = R.length ∧ S.data.toList.drop i = R ++ E ∧ i + R.length + E.length = S.size ∧ okM s.dot R ∧
        (c0 :: M').foldl dStep ds0 = R.foldl dStep s ∧ s.L.length + R.length ≤ 100000 ∧ -100000 ≤ s.dp - R.length ∧ s.dp ≤ 100000 ∧ DecAt wr g s.L s.dp ng s.tr ∧ Only g w wr)
      case atStart =>
        refine ⟨o, c0 :: M', ds0, rfl, rfl, rfl, rfl, HBO.out, ?_, HM.out, rfl, ?_, ?_, ?_, HDE.out, HON.out⟩
        · have := HS1.out; simp; omega
        · have := HS1.out; show 0 + (c0 :: M').length ≤ 100000; simp; omega
        · have := HS1.out; show -100000 ≤ (0 : Int) - ((c0 :: M').length : Nat); simp; omega
        · decide
      case round =>
        clear HDE HON
        obtain ⟨i, R, ⟨L, dp, dot, dg, tr⟩, rfl, rfl, rfl, hG, hdr, hi, hok, hfo, hnd, hdp0, hdp1, hdec, hon⟩ := hrel
        dsimp only at hok hnd hdp0 hdp1 hdec
        obtain ⟨c80, c81, c82, c83, cdi, fz⟩ := dec_cells hdec
        have f80 := fz 800
        have f81 := fz 801
        have f83 := fz 803
        have HFZ := Lib.hid fz
        have HCD := Lib.hid cdi
        have HG2 := Lib.hid hG
        have HDR := Lib.hid hdr
        have HOK := Lib.hid hok
        have HFO := Lib.hid hfo
        have HDE := Lib.hid hdec
        have HON := Lib.hid hon
        clear hG hdr hok hfo hdec hon fz cdi c82
        cases R with
        | nil =>
          have hsE : (c0 :: M').foldl dStep ds0 = ⟨L, dp, dot, dg, tr⟩ := HFO.out
          have HSE := Lib.hid hsE
          clear hsE
          cases hEE : E with
          | nil =>
            subst hEE
            simp only [List.length_nil] at hi
            have hi1' : (S.size : Int) ≤ i := by omega
            as_aux_lemma =>
              go_wp2
              go_meet
              exact ⟨i, ⟨L, dp, dot, dg, tr⟩, rfl, rfl, rfl, HDR.out, by simp; omega, HSE.out, by simp at hnd; omega, by simp at hdp0; omega, hdp1, HDE.out, HON.out⟩
          | cons ec E' =>
            have hec : ec.toNat = 69 ∨ ec.toNat = 101 := by
              have := HE.out
              rw [hEE] at this
              cases this <;> assumption
            rw [hEE] at hi
            simp only [List.length_nil, List.length_cons] at hi hnd hdp0
            have hi1 : i < S.size := by omega
            have hi1' : (i : Int) < S.size := by omega
            have hcb : S[i] = ec := byte_at (by rw [← List.head?_drop, HDR.out, hEE]; rfl) hi1
            have hEL : i + E.length = S.size := by rw [hEE]; simp; omega
            have HEL := Lib.hid hEL
            have HEE := Lib.hid hEE
            have n1 : ((ec.toNat : Int) == 95) = false := by simp; omega
            have n2 : ((ec.toNat : Int) == 46) = false := by simp; omega
            have n3 : (48 : Int) ≤ ec.toNat := by omega
            have n4 : (57 : Int) < ec.toNat := by omega
            clear hEL hEE hec
            as_aux_lemma =>
              go_wp2
              go_meet
              exact ⟨i, ⟨L, dp, dot, dg, tr⟩, rfl, rfl, rfl, HDR.out, HEL.out, HSE.out, by show L.length ≤ 100000; omega, by show -100000 ≤ dp; omega, hdp1, HDE.out, HON.out⟩
        | cons c R' =>
          have hi1 : i < S.size := by simp at hi; omega
          have hi1' : (i : Int) < S.size := by omega
          have hcb : S[i] = c := byte_at (by rw [← List.head?_drop, HDR.out]; rfl) hi1
          have hdr' : S.data.toList.drop (i + 1) = R' ++ E := by rw [← List.drop_drop, HDR.out]; rfl
          have HDR' := Lib.hid hdr'
          clear hdr'
          simp only [List.length_cons] at hi hnd hdp0
          rcases HOK.out with ⟨h46, hdot, hok'⟩ | ⟨h48, h57, hok'⟩
          · subst hdot
            have HOK' := Lib.hid hok'
            have hst : dStep ⟨L, dp, false, dg, tr⟩ c = ⟨L, L.length, true, dg, tr⟩ := by unfold dStep; rw [if_pos h46]
            have HST := Lib.hid hst
            have h46' : (c.toNat : Int) = 46 := by omega
            clear hok' h46 hst
            as_aux_lemma =>
              go_wp2
              go_roundg R'.length
              case measure => rw [HG2.out]; simp
              case rel => exact ⟨i + 1, R', ⟨L, L.length, true, dg, tr⟩, by go_num, rfl, rfl, rfl, HDR'.out, by omega, HOK'.out, by rw [← HST.out]; exact HFO.out, by show L.length + R'.length ≤ 100000; omega, by show -100000 ≤ (L.length : Int) - R'.length; omega, by show (L.length : Int) ≤ 100000; omega, dec_dp HDE.out _, HON.out.setCell _ _⟩
          · have HOK' := Lib.hid hok'
            have n1 : ((c.toNat : Int) == 95) = false := by simp; omega
            have n2 : ((c.toNat : Int) == 46) = false := by simp; omega
            have n3 : (48 : Int) ≤ c.toNat := by omega
            have n4 : (c.toNat : Int) ≤ 57 := by omega
            have h46 : ¬ c.toNat = 46 := by omega
            have H46 := Lib.hid h46
            clear hok' h46
            by_cases h0 : c.toNat = 48
            · have h0' : ((c.toNat : Int) == 48) = true := by simp; omega
              have h0n : ((c.toNat : Int) != 48) = false := by simp; omega
              by_cases hz : L.length = 0
              · have hst : dStep ⟨L, dp, dot, dg, tr⟩ c = ⟨L, dp - 1, dot, true, tr⟩ := by unfold dStep; rw [if_neg H46.out, if_pos ⟨h0, hz⟩]
                have HST := Lib.hid hst
                have hz' : ((L.length : Int) == 0) = true := by simp only [beq_iff_eq]; omega
                have HZ := Lib.hid hz
                clear hst h0 hz
                as_aux_lemma =>
                  go_wp2
                  go_roundg R'.length
                  case measure => rw [HG2.out]; simp
                  case rel => exact ⟨i + 1, R', ⟨L, dp - 1, dot, true, tr⟩, by go_num, rfl, rfl, rfl, HDR'.out, by omega, HOK'.out, by rw [← HST.out]; exact HFO.out, by show L.length + R'.length ≤ 100000; omega, by show -100000 ≤ dp - 1 - R'.length; omega, by show dp - 1 ≤ 100000; omega, dec_dp HDE.out (dp - 1), HON.out.setCell _ _⟩
              · have hz' : ((L.length : Int) == 0) = false := by rw [beq_eq_false_iff_ne]; omega
                by_cases hm8 : L.length < 800
                · have hm8' : (L.length : Int) < 800 := by omega
                  have hst : dStep ⟨L, dp, dot, dg, tr⟩ c = ⟨L ++ [(c.toNat : Int)], dp, dot, true, tr⟩ := by unfold dStep; rw [if_neg H46.out, if_neg (fun h => hz h.2), if_pos hm8]
                  have HST := Lib.hid hst
                  have HZ := Lib.hid hz
                  obtain ⟨x0, cx⟩ := HCD.out L.length hm8
                  have fx := HFZ.out L.length
                  clear hst h0 hz
                  as_aux_lemma =>
                    go_wp2
                    go_region
                    go_wp2
                    go_roundg R'.length
                    case measure => rw [HG2.out]; simp
                    case rel => exact ⟨i + 1, R', ⟨L ++ [(c.toNat : Int)], dp, dot, true, tr⟩, by go_num, rfl, rfl, rfl, HDR'.out, by omega, HOK'.out, by rw [← HST.out]; exact HFO.out, by simp only [List.length_append, List.length_singleton]; omega, by show -100000 ≤ dp - R'.length; omega, hdp1, dec_push (dec_drew HDE.out _) hm8 _, ((HON.out.drewN _).setCell _ _).setCell _ _⟩
                · have hm8' : (800 : Int) ≤ L.length := by omega
                  have hst : dStep ⟨L, dp, dot, dg, tr⟩ c = ⟨L, dp, dot, true, tr⟩ := by unfold dStep; rw [if_neg H46.out, if_neg (fun h => hz h.2), if_neg hm8, if_pos h0]
                  have HST := Lib.hid hst
                  have HZ := Lib.hid hz
                  clear hst h0 hz
                  as_aux_lemma =>
                    go_wp2
                    go_roundg R'.length
                    case measure => rw [HG2.out]; simp
                    case rel => exact ⟨i + 1, R', ⟨L, dp, dot, true, tr⟩, by go_num, rfl, rfl, rfl, HDR'.out, by omega, HOK'.out, by rw [← HST.out]; exact HFO.out, by show L.length + R'.length ≤ 100000; omega, by show -100000 ≤ dp - R'.length; omega, hdp1, HDE.out, HON.out⟩
            · have h0' : ((c.toNat : Int) == 48) = false := by simp; omega
              have h0n : ((c.toNat : Int) != 48) = true := by simp; omega
              have H0 := Lib.hid h0
              clear h0
              by_cases hm8 : L.length < 800
              · have hm8' : (L.length : Int) < 800 := by omega
                have hst : dStep ⟨L, dp, dot, dg, tr⟩ c = ⟨L ++ [(c.toNat : Int)], dp, dot, true, tr⟩ := by unfold dStep; rw [if_neg H46.out, if_neg (fun h => H0.out h.1), if_pos hm8]
                have HST := Lib.hid hst
                obtain ⟨x0, cx⟩ := HCD.out L.length hm8
                have fx := HFZ.out L.length
                clear hst
                as_aux_lemma =>
                  go_wp2
                  go_region
                  go_wp2
                  go_roundg R'.length
                  case measure => rw [HG2.out]; simp
                  case rel => exact ⟨i + 1, R', ⟨L ++ [(c.toNat : Int)], dp, dot, true, tr⟩, by go_num, rfl, rfl, rfl, HDR'.out, by omega, HOK'.out, by rw [← HST.out]; exact HFO.out, by simp only [List.length_append, List.length_singleton]; omega, by show -100000 ≤ dp - R'.length; omega, hdp1, dec_push (dec_drew HDE.out _) hm8 _, ((HON.out.drewN _).setCell _ _).setCell _ _⟩
              · have hm8' : (800 : Int) ≤ L.length := by omega
                have hst : dStep ⟨L, dp, dot, dg, tr⟩ c = ⟨L, dp, dot, true, true⟩ := by unfold dStep; rw [if_neg H46.out, if_neg (fun h => H0.out h.1), if_neg hm8, if_neg H0.out]
                have HST := Lib.hid hst
                clear hst
                as_aux_lemma =>
                  go_wp2
                  go_roundg R'.length
                  case measure => rw [HG2.out]; simp
                  case rel => exact ⟨i + 1, R', ⟨L, dp, dot, true, true⟩, by go_num, rfl, rfl, rfl, HDR'.out, by omega, HOK'.out, by rw [← HST.out]; exact HFO.out, by show L.length + R'.length ≤ 100000; omega, by show -100000 ≤ dp - R'.length; omega, hdp1, dec_tr HDE.out true, HON.out.setCell _ _⟩
    case rest =>
      clear HDE HON
      obtain ⟨i, ⟨L, dp, dot, dg, tr⟩, rfl, rfl, rfl, hdr, hi, hfo, hnd, hdp0, hdp1, hdec, hon⟩ := hcut
      have hdg : dg = true := by
        have := HG.out
        rw [hfo] at this
        exact this
      subst hdg
      dsimp only at hnd hdp0 hdp1 hdec ⊢
      have HDR := Lib.hid hdr
      have HFO := Lib.hid hfo
      obtain ⟨c80, c81, -, -, -, fz⟩ := dec_cells hdec
      have f81 := fz 801
      have HDE := Lib.hid hdec
      have HON := Lib.hid hon
      clear hdr hfo hdec hon fz
      go_upto_if 120 with fail
      go_cut [] (fun wx => DecAt wx g L (if dot then dp else L.length) ng tr ∧ Only g w wx)
      case first =>
        cases dot
        · as_aux_lemma =>
            go_wp2
            go_meet
            exact ⟨dec_dp HDE.out _, HON.out.setCell _ _⟩
        · as_aux_lemma =>
            go_wp2
            go_meet
            exact ⟨HDE.out, HON.out⟩
      case rest =>
        obtain ⟨hdec, hon⟩ := hcut
        clear HDE HON c80 c81 f81
        have hpp : -100000 ≤ (if dot then dp else (L.length : Int)) ∧ (if dot then dp else (L.length : Int)) ≤ 100000 := by split <;> omega
        generalize hP : (if dot then dp else (L.length : Int)) = pp at *
        have HP := Lib.hid hP
        obtain ⟨c80, c81, -, -, -, fz⟩ := dec_cells hdec
        have f81 := fz 801
        have HDE := Lib.hid hdec
        have HON := Lib.hid hon
        clear hP hdec hon fz
        obtain ⟨hpp0, hpp1⟩ := hpp
        go_upto_region 32 with fail
        go_cut [138] (fun s138 wx => wx = wc ∧ s138 = .bool (!E.isEmpty))
        case first =>
          cases hEE : E with
          | nil =>
            rw [hEE] at hi
            simp only [List.length_nil] at hi
            have hi1' : (S.size : Int) ≤ i := by omega
            have HEE := Lib.hid hEE
            clear hEE
            as_aux_lemma =>
              go_wp2
              go_meet
              exact ⟨rfl, by rw [HEE.out]; rfl⟩
          | cons ec E' =>
            have hec : ec.toNat = 69 ∨ ec.toNat = 101 := by
              have := HE.out
              rw [hEE] at this
              cases this <;> assumption
            rw [hEE] at hi
            simp only [List.length_cons] at hi
            have hi1 : i < S.size := by omega
            have hi1' : (i : Int) < S.size := by omega
            have hcb : S[i] = ec := byte_at (by rw [← List.head?_drop, HDR.out, hEE]; rfl) hi1
            have hlx : (low (ec.toNat : Int) == 101) = true := by
              rw [beq_iff_eq]
              exact (low_e ec).2 hec
            have HEE := Lib.hid hEE
            clear hEE hec
            as_aux_lemma =>
              go_wp2_with (first | (go_at_call 141; refine (lower_any _ _).mono ?_; rintro e w' ⟨rfl, rfl⟩) | fail)
              go_meet
              exact ⟨rfl, by rw [HEE.out]; rfl⟩
        case rest =>
          obtain ⟨rfl, rfl⟩ := hcut
          go_upto_if 138 with fail
          go_cut [5] (fun s5 wx => s5 = .int .i64 S.size ∧ DecAt wx g L (pp + x) ng tr ∧ Only g w wx)
          case first =>
            by_cases hEn : E = []
            · subst hEn
              have hx0 : x = 0 := by
                have := HE.out
                cases this
                rfl
              subst hx0
              simp only [List.length_nil] at hi
              have hi2 : i = S.size := by omega
              subst hi2
              as_aux_lemma =>
                go_wp2
                go_meet
                exact ⟨rfl, by rw [Int.add_zero]; exact HDE.out, HON.out⟩
            · obtain ⟨ec, sg, D, es, hE3, hx, hD, hd, hsg⟩ : ∃ (ec : UInt8) (sg D : List UInt8) (es : Int), E = ec :: (sg ++ D) ∧ x = D.foldl eStep 0 * es ∧ D ≠ [] ∧ (∀ c ∈ D, isDg c) ∧ ((sg = [] ∧ es = 1) ∨ (sg = [43] ∧ es = 1) ∨ (sg = [45] ∧ es = -1)) := by
                have := HE.out
                cases this with
                | none => exact absurd rfl hEn
                | plain ec D h hD hd => exact ⟨ec, [], D, 1, rfl, rfl, hD, hd, .inl ⟨rfl, rfl⟩⟩
                | plus ec D h hD hd => exact ⟨ec, [43], D, 1, rfl, rfl, hD, hd, .inr (.inl ⟨rfl, rfl⟩)⟩
                | minus ec D h hD hd => exact ⟨ec, [45], D, -1, rfl, rfl, hD, hd, .inr (.inr ⟨rfl, rfl⟩)⟩
              obtain ⟨d0, D', rfl⟩ : ∃ d0 D', D = d0 :: D' := by
                cases D with
                | nil => exact absurd rfl hD
                | cons a b => exact ⟨a, b, rfl⟩
              have hEm : (!E.isEmpty) = true := by rw [hE3]; rfl
              rw [hEm]
              clear hEm
              have hlE : E.length = 1 + (sg.length + (D'.length + 1)) := by rw [hE3]; simp; omega
              have hi1 : (i : Int) + 1 < S.size := by omega
              have hi1n : i + 1 < S.size := by omega
              have hdr1 : S.data.toList.drop (i + 1) = sg ++ d0 :: D' := by rw [← List.drop_drop, HDR.out, hE3]; rfl
              have HX := Lib.hid hx
              have HDD := Lib.hid hd
              have HLE := Lib.hid hlE
              have hdig : isDg d0 := hd d0 (List.mem_cons_self ..)
              unfold isDg at hdig
              clear hE3 hx hD hd hlE hEn
              go_upto_block 4 with fail
              go_cut [5, 8] (fun s5 s8 wx => wx = wc ∧ ∃ (j : Nat), s5 = .int .i64 j ∧ s8 = .int .i64 es ∧ S.data.toList.drop j = d0 :: D' ∧ j + (D'.length + 1) = S.size)
              case first =>
                rcases hsg with ⟨rfl, rfl⟩ | ⟨rfl, rfl⟩ | ⟨rfl, rfl⟩
                · have hcb : S[i + 1] = d0 := byte_at (by rw [← List.head?_drop, hdr1]; rfl) hi1n
                  have n1 : ((d0.toNat : Int) == 43) = false := by simp; omega
                  have n2 : ((d0.toNat : Int) == 45) = false := by simp; omega
                  have HDR1 := Lib.hid hdr1
                  clear hdr1
                  as_aux_lemma =>
                    go_wp2
                    go_meet
                    have := HLE.out
                    exact ⟨rfl, i + 1, by go_num, rfl, HDR1.out, by simp at this; omega⟩
                · have hcb : S[i + 1] = 43 := byte_at (by rw [← List.head?_drop, hdr1]; rfl) hi1n
                  have HDR1 := Lib.hid hdr1
                  clear hdr1
                  as_aux_lemma =>
                    go_wp2
                    go_meet
                    have := HLE.out
                    exact ⟨rfl, i + 2, by go_num, rfl, by rw [show i + 2 = i + 1 + 1 from rfl, ← List.drop_drop, HDR1.out]; rfl, by simp at this; omega⟩
                · have hcb : S[i + 1] = 45 := byte_at (by rw [← List.head?_drop, hdr1]; rfl) hi1n
                  have HDR1 := Lib.hid hdr1
                  clear hdr1
                  as_aux_lemma =>
                    go_wp2
                    go_meet
                    have := HLE.out
                    exact ⟨rfl, i + 2, by go_num, rfl, by rw [show i + 2 = i + 1 + 1 from rfl, ← List.drop_drop, HDR1.out]; rfl, by simp at this; omega⟩
              case rest =>
                obtain ⟨rfl, j, rfl, rfl, hdj, hj⟩ := hcut
                have hj1 : j < S.size := by omega
                have hj1' : (j : Int) < S.size := by omega
                have hcb : S[j] = d0 := byte_at (by rw [← List.head?_drop, hdj]; rfl) hj1
                have n3 : (48 : Int) ≤ d0.toNat := by omega
                have n4 : (d0.toNat : Int) ≤ 57 := by omega
                have HDJ := Lib.hid hdj
                have HJ := Lib.hid hj
                have hes : es = 1 ∨ es = -1 := by rcases hsg with ⟨-, h⟩ | ⟨-, h⟩ | ⟨-, h⟩ <;> simp [h]
                have HES := Lib.hid hes
                clear hdj hj hdr1 hsg hes
                go_upto_block 5 with fail
                go_cut [5, 9] (fun s5 s9 wx => wx = wc ∧ s5 = .int .i64 S.size ∧ ∃ e : Int, s9 = .int .i64 e ∧ e = (d0 :: D').foldl eStep 0 ∧ 0 ≤ e ∧ e ≤ 200000)
                case first =>
                  clear n3 n4 hcb hj1 hj1' hdig
                  go_wp2_with fail
                  go_loopg [5, 9] (D'.length + 1) (fun G s5 s9 wr => ∃ (k : Nat) (R : List UInt8) (e : Int), s5 = .int .i64 k ∧ s9 = .int .i64 e ∧ G = R.length ∧ S.data.toList.drop k = R ∧ k + R.length = S.size ∧
                    (∀ c ∈ R, isDg c) ∧ (d0 :: D').foldl eStep 0 = R.foldl eStep e ∧ 0 ≤ e ∧ e ≤ 200000 ∧ wr = wc)
                  case atStart => exact ⟨j, d0 :: D', 0, rfl, rfl, rfl, HDJ.out, HJ.out, HDD.out, rfl, by omega, by omega, rfl⟩
                  case round =>
                    obtain ⟨k, R, e, rfl, rfl, hG2, hdk, hk, hdg, hfe, he0, he1, rfl⟩ := hrel
                    have HG2 := Lib.hid hG2
                    have HDK := Lib.hid hdk
                    have HDG := Lib.hid hdg
                    have HFE := Lib.hid hfe
                    clear hG2 hdk hdg hfe
                    cases R with
                    | nil =>
                      simp only [List.length_nil] at hk
                      have hk2 : k = S.size := by omega
                      subst hk2
                      as_aux_lemma =>
                        go_wp2
                        go_meet
                        exact ⟨rfl, rfl, e, rfl, HFE.out.symm, he0, he1⟩
                    | cons c R' =>
                      simp only [List.length_cons] at hk
                      have hk1 : k < S.size := by omega
                      have hk1' : (k : Int) < S.size := by omega
                      have hcb : S[k] = c := byte_at (by rw [← List.head?_drop, HDK.out]; rfl) hk1
                      obtain ⟨c1, c2⟩ := HDG.out c (List.mem_cons_self ..)
                      have n1 : ((c.toNat : Int) == 95) = false := by simp; omega
                      have n3 : (48 : Int) ≤ c.toNat := by omega
                      have n4 : (c.toNat : Int) ≤ 57 := by omega
                      by_cases he : e < 10000
                      · have hst : eStep e c = e * 10 + (c.toNat : Int) - 48 := if_pos he
                        have HST := Lib.hid hst
                        clear hst
                        as_aux_lemma =>
                          go_wp2
                          go_roundg R'.length
                          case measure => rw [HG2.out]; simp
                          case rel => exact ⟨k + 1, R', e * 10 + (c.toNat : Int) - 48, by go_num, by go_num, rfl, by rw [← List.drop_drop, HDK.out]; rfl, by omega, fun c hc => HDG.out c (List.mem_cons_of_mem _ hc), by rw [← HST.out]; exact HFE.out, by omega, by omega, rfl⟩
                      · have he' : (10000 : Int) ≤ e := by omega
                        have hst : eStep e c = e := if_neg he
                        have HST := Lib.hid hst
                        clear hst he
                        as_aux_lemma =>
                          go_wp2
                          go_roundg R'.length
                          case measure => rw [HG2.out]; simp
                          case rel => exact ⟨k + 1, R', e, by go_num, by go_num, rfl, by rw [← List.drop_drop, HDK.out]; rfl, by omega, fun c hc => HDG.out c (List.mem_cons_of_mem _ hc), by conv => { rhs; rw [← HST.out] }; exact HFE.out, by omega, by omega, rfl⟩
                case rest =>
                  obtain ⟨rfl, rfl, e, rfl, he, he0, he1⟩ := hcut
                  have HEV := Lib.hid he
                  clear he
                  rcases HES.out with rfl | rfl
                  · as_aux_lemma =>
                      have hxe : pp + x = pp + e := by rw [HX.out, ← HEV.out]; omega
                      have HXE := Lib.hid hxe
                      clear hxe
                      go_wp2
                      go_meet
                      refine ⟨rfl, ?_, HON.out.setCell _ _⟩
                      rw [HXE.out]
                      exact dec_dp HDE.out _
                  · as_aux_lemma =>
                      have hxe : pp + x = pp + -e := by rw [HX.out, ← HEV.out]; omega
                      have HXE := Lib.hid hxe
                      clear hxe
                      go_wp2
                      go_meet
                      refine ⟨rfl, ?_, HON.out.setCell _ _⟩
                      rw [HXE.out]
                      exact dec_dp HDE.out _
          case rest =>
            obtain ⟨rfl, hdec, hon⟩ := hcut
            clear HDE HON c80 c81 f81
            have HDE := Lib.hid hdec
            have HON := Lib.hid hon
            clear hdec hon
            go_wp2
            go_ret
            have e1 : L1 = L := by rw [← HLL.out, HFO.out]
            have e2 : tr1 = tr := by rw [← HTT.out, HFO.out]
            have e3 : v = pp + x := by
              rw [← HV.out, HFO.out]
              dsimp only
              rw [HP.out]
            rw [e1, e2, e3]
            exact ⟨rfl, HDE.out, HON.out⟩
end Go.Proofs.YthfjakbpeclfcaaGreatDoor
