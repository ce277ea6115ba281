/-
  The library's leftShift of a decimal: what it does to the digits.
-/
import Derived.Test.YthfjakbpeclfcaaGreatDoorGMm
import Derived.Test.YthfjakbpeclfcaaGreatDoorLp
namespace Go.Proofs.YthfjakbpeclfcaaGreatDoor
open Go.RowKit Go

theorem lexLt_drop (L : List Int) (s : List UInt8) (i : Nat) (hi : i < s.length) :
    lexLt (L.drop i) (s.drop i) = if h : i < L.length then (if L[i] = ((s[i]).toNat : Int) then lexLt (L.drop (i + 1)) (s.drop (i + 1)) else decide (L[i] < ((s[i]).toNat : Int))) else true := by
  rw [List.drop_eq_getElem_cons hi]
  split
  · rename_i h
    rw [List.drop_eq_getElem_cons h, lexLt]
  · rename_i h
    rw [List.drop_of_length_le (by omega), lexLt]

set_option maxHeartbeats 1000000 in
set_option maxRecDepth 100000 in
theorem prefixLess_any (w : World) (g : Nat) (D : Nat → Int) (nd cap : Nat) (s : ByteArray) (hn : nd ≤ 800) (hs : s.size ≤ 1000) (hD : ∀ i, i < nd → 48 ≤ D i ∧ D i ≤ 57)
    (hc : ∀ i, i < nd → w.cell? ⟨g, i, none⟩ = some (.int .u8 (D i))) :
    Calls Tryz.prog 163 #[.slice (some ⟨g, 0, none⟩) nd cap, .string s] w fun e w' => e = .returned (.bool (lexLt (digs D nd) s.data.toList)) ∧ ∃ n, w' = w.drewN n := by
  have HC := Lib.hid hc
  have HD := Lib.hid hD
  clear hc hD
  go_enter Tryz.func163, Tryz.ntmps163
  go_wp2
  go_loopg [5] (s.size + 1) (fun m s5 wr => ∃ i q : Nat, s5 = .int .i64 i ∧ i ≤ s.size ∧ m = s.size + 1 - i ∧ lexLt (digs D nd) s.data.toList = lexLt ((digs D nd).drop i) (s.data.toList.drop i) ∧ wr = w.drewN q)
  case atStart => exact ⟨0, 0, rfl, by omega, rfl, rfl, rfl⟩
  case round =>
    obtain ⟨i, q, rfl, hi, hm, hl, rfl⟩ := hrel
    have HM := Lib.hid hm
    have HL := Lib.hid hl
    clear hm hl
    by_cases h1 : i < s.size
    · have h1' : (i : Int) < s.size := by omega
      have hstep := lexLt_drop (digs D nd) s.data.toList i (by simpa using h1)
      have HST := Lib.hid hstep
      clear hstep
      by_cases h2 : i < nd
      · have h2' : (i : Int) < nd := by omega
        have c1 := HC.out i h2
        obtain ⟨d1, d2⟩ := HD.out i h2
        by_cases h3 : D i = (s[i].toNat : Int)
        · have h3' : (D i != (s[i].toNat : Int)) = false := by simpa using h3
          have H3 := Lib.hid h3
          clear h3
          go_wp2
          go_quiet (fail)
          go_wp2
          go_roundg (s.size + 1 - (i + 1))
          case measure => have := HM.out; omega
          case rel =>
            refine ⟨i + 1, q + nq, by go_num, by omega, rfl, ?_, rfl⟩
            rw [HL.out, HST.out, dif_pos (by rw [digs_length]; exact h2), if_pos]
            simp [digs]
            exact H3.out
        · have h3' : (D i != (s[i].toNat : Int)) = true := by simpa using h3
          have H3 := Lib.hid h3
          clear h3
          go_wp2
          go_quiet (fail)
          go_wp2
          go_quiet (fail)
          go_wp2
          go_ret
          refine ⟨?_, _, by rw [World.drewN_drewN, World.drewN_drewN]⟩
          rw [HL.out, HST.out, dif_pos (by rw [digs_length]; exact h2), if_neg]
          · simp [digs]
            rfl
          · simp [digs]
            exact H3.out
      · have h2' : (nd : Int) ≤ i := by omega
        go_wp2
        go_ret
        refine ⟨?_, q, rfl⟩
        rw [HL.out, HST.out, dif_neg (by rw [digs_length]; omega)]
        rfl
    · have h1' : (s.size : Int) ≤ i := by omega
      go_wp2
      go_ret
      refine ⟨?_, q, rfl⟩
      rw [HL.out, List.drop_of_length_le (l := s.data.toList) (by simp; omega)]
      cases List.drop i (digs D nd) <;> rfl

/-- The array while the product is laid, from the right: the digits o stand from W on (those below place 800), what is left of W by old digits is as it was, and the mark tells of what fell away. -/
structure Acc (D E : Nat → Int) (M W T : Nat) (o : List Int) (tr t : Bool) : Prop where
  len : o.length + W = T
  old : ∀ i, i < M → E i = D i
  new : ∀ i, W ≤ i → i < T → i < 800 → o[i - W]? = some (E i)
  mark : t = (tr || (o.drop (800 - W)).any (· != 48))
theorem Acc.start (D : Nat → Int) (M T : Nat) (tr : Bool) : Acc D D M T T [] tr tr := ⟨by simp, fun _ _ => rfl, fun i h1 h2 => by omega, by simp⟩
theorem Acc.store {D E : Nat → Int} {M M' W T : Nat} {o : List Int} {tr t : Bool} (h : Acc D E M (W + 1) T o tr t) {x : Int} (hM : M' ≤ M) (hW : M' ≤ W) (h8 : W < 800) : Acc D (upd E W x) M' W T (x :: o) tr t := by
  refine ⟨by have := h.len; simp; omega, fun i hi => ?_, fun i h1 h2 h3 => ?_, ?_⟩
  · unfold upd; rw [if_neg (by omega)]; exact h.old i (by omega)
  · unfold upd
    by_cases e : i = W
    · subst e; simp
    · rw [if_neg e, show i - W = (i - (W + 1)) + 1 from by omega, List.getElem?_cons_succ]
      exact h.new i (by omega) h2 h3
  · rw [h.mark, show 800 - W = (800 - (W + 1)) + 1 from by omega, List.drop_succ_cons]
theorem Acc.drop0 {D E : Nat → Int} {M M' W T : Nat} {o : List Int} {tr t : Bool} (h : Acc D E M (W + 1) T o tr t) {x : Int} (hM : M' ≤ M) (_hW : M' ≤ W) (h8 : 800 ≤ W) (hx : x = 0) : Acc D E M' W T ((x + 48) :: o) tr t := by
  refine ⟨by have := h.len; simp; omega, fun i hi => h.old i (by omega), fun i h1 h2 h3 => by omega, ?_⟩
  rw [h.mark, show 800 - W = 0 from by omega, show 800 - (W + 1) = 0 from by omega]
  subst hx
  simp
theorem Acc.drop1 {D E : Nat → Int} {M M' W T : Nat} {o : List Int} {tr t : Bool} (h : Acc D E M (W + 1) T o tr t) {x : Int} (hM : M' ≤ M) (_hW : M' ≤ W) (h8 : 800 ≤ W) (hx : x ≠ 0) : Acc D E M' W T ((x + 48) :: o) tr true := by
  refine ⟨by have := h.len; simp; omega, fun i hi => h.old i (by omega), fun i h1 h2 h3 => by omega, ?_⟩
  have e : (x + 48 != 48) = true := by rw [bne_iff_ne]; omega
  rw [show 800 - W = 0 from by omega, List.drop_zero, List.any_cons, e]
  simp

/-- What leftShift leaves: digits, point, mark. -/
def lsF (k : Nat) (L : List Int) (dp : Int) (tr : Bool) : List Int × Int × Bool :=
  (trimL ((lsO k L).take 800), if trimL ((lsO k L).take 800) = [] then 0 else dp + dlt k L, tr || ((lsO k L).drop 800).any (· != 48))

set_option maxHeartbeats 4000000 in
set_option maxRecDepth 100000 in
theorem leftShift_any (w : World) (g : Nat) (D : Nat → Int) (nd : Nat) (dp : Int) (ng tr : Bool) (k : Nat) (h : RawAt w g D nd dp ng tr) (hn : nd ≤ 800) (hn0 : 0 < nd)
    (hk0 : 0 < k) (hk : k ≤ 60) (hD : ∀ i, i < nd → 48 ≤ D i ∧ D i ≤ 57) (hD0 : D 0 ≠ 48) (hdp0 : -1000000000000 ≤ dp) (hdp1 : dp ≤ 1000000000000)
    (lb lo lc : Nat) (hT : w.cell? ⟨15, 0, none⟩ = some (.slice (some ⟨lb, lo, none⟩) 61 lc)) (hT1 : w.cell? ⟨lb, lo + k * 2, none⟩ = some (.int .i64 (chD k)))
    (hT2 : w.cell? ⟨lb, lo + k * 2 + 1, none⟩ = some (.string ⟨(chS k).toArray⟩)) :
    Calls Tryz.prog 156 #[.pointer (some ⟨g, 0, none⟩), .int .u64 k] w fun e w' => e = .returned (.tuple #[]) ∧
      DecAt w' g (lsF k (digs D nd) dp tr).1 (lsF k (digs D nd) dp tr).2.1 ng (lsF k (digs D nd) dp tr).2.2 ∧ Only g w w' := by
  have cnd := h.cnd
  have hp60 := pow_le60 hk
  have hp1 : (1 : Int) ≤ 2 ^ k := Int.pow_pos (by decide)
  obtain ⟨c1, c2, -, -, -, -, -⟩ := ch_facts k hk0 hk
  have hk61 : (k : Int) < 61 := by omega
  have hnI : (nd : Int) ≤ 800 := by omega
  have HD := Lib.hid hD
  have HD0 := Lib.hid hD0
  have H := Lib.hid h
  have hcell : ∀ q i, i < nd → (w.drewN q).cell? ⟨g, i, none⟩ = some (.int .u8 (D i)) := fun q i hi => h.dig (by omega)
  have HCELL := Lib.hid hcell
  have hsz : (⟨(chS k).toArray⟩ : ByteArray).size ≤ 1000 := by show (chS k).toArray.size ≤ 1000; simp; omega
  have HSZ := Lib.hid hsz
  clear h hD hD0 hcell hsz
  have hdl : dlt k (digs D nd) ≤ 61 := by unfold dlt; split <;> omega
  go_enter Tryz.func156, Tryz.ntmps156
  have HLX := Lib.hid (show dlt k (digs D nd) = if lexLt (digs D nd) (chS k) then chD k - 1 else chD k from rfl)
  go_wp2
  go_quiet ((go_at_call 163; exact Calls.quiet_of (prefixLess_any _ g D nd 800 _ hn HSZ.out HD.out (fun i hi => HCELL.out _ i hi))))
  go_upto_if 30 with fail
  go_cut [4] (fun s4 wx => wx = w.drewN nq ∧ s4 = .int .i64 (dlt k (digs D nd)))
  case first =>
    go_wp2
    · go_meet
      rename_i hx _
      refine ⟨rfl, ?_⟩
      have hx : lexLt (digs D nd) (chS k) = true := by assumption
      rw [HLX.out, if_pos hx]
      simp only [Value.int.injEq, true_and]
      omega
    · go_meet
      refine ⟨rfl, ?_⟩
      have hx : lexLt (digs D nd) (chS k) = false := by assumption
      rw [HLX.out, hx]
      rfl
  case rest =>
    obtain ⟨rfl, rfl⟩ := hcut
    have hdl' : (dlt k (digs D nd) : Int) ≤ 61 := by omega
    generalize hdd : dlt k (digs D nd) = dl at *
    have HDD := Lib.hid hdd
    clear hdd HLX
    have hraw := H.out.drewN nq
    have HRAW := Lib.hid hraw
    have cnd' := hraw.cnd
    have hon : Only g w (w.drewN nq) := (Only.refl _ _).drewN _
    have HON := Lib.hid hon
    clear hraw hon
    go_wp2
    go_loopg [5, 6, 7] nd (fun M s5 s6 s7 wr => ∃ (W : Nat) (n : Int) (o : List Int) (E : Nat → Int) (t : Bool), s5 = .int .i64 ((M : Int) - 1) ∧ s6 = .int .i64 W ∧ s7 = .int .u64 n ∧ M ≤ nd ∧ W = M + dl ∧
      ls1 k (digs D nd).reverse 0 [] = ls1 k (digs D M).reverse n o ∧ Acc D E M W (nd + dl) o tr t ∧ o.length + M = nd ∧ 0 ≤ n ∧ n < 2 ^ k ∧ RawAt wr g E nd dp ng t ∧ Only g w wr)
    case atStart => exact ⟨nd + dl, 0, [], D, tr, rfl, by go_num, rfl, by omega, rfl, rfl, Acc.start D nd (nd + dl) tr, by simp, by omega, by omega, HRAW.out, HON.out⟩
    case round =>
      obtain ⟨W, n, o, E, t, rfl, rfl, rfl, hM, hW, hls, hacc, hol, hn1, hn2, hraw2, hon2⟩ := hrel
      have HW := Lib.hid hW
      have HLS := Lib.hid hls
      have HACC := Lib.hid hacc
      have HOL := Lib.hid hol
      have HRAW2 := Lib.hid hraw2
      have HON2 := Lib.hid hon2
      clear hW hls hacc hol hraw2 hon2
      by_cases h0 : gk = 0
      · subst h0
        have hneg : (((0 : Nat) : Int) - 1) = -1 := rfl
        go_wp2
        have hn1o1 : ls1 k (digs D nd).reverse 0 [] = (n, o) := HLS.out
        obtain ⟨cc, cs, hcs⟩ : ∃ cc cs, digs D nd = cc :: cs := by
          cases hd : digs D nd with
          | nil => exact absurd (congrArg List.length hd) (by rw [digs_length]; simp; omega)
          | cons a b => exact ⟨a, b, rfl⟩
        have hcc : cc = D 0 := by
          have h0 := digs_get D (n := nd) (i := 0) hn0
          rw [hcs] at h0
          simpa using h0
        have hdg : Dg (cc :: cs) := fun x hx => by
          rw [← hcs] at hx
          obtain ⟨i, hi, rfl⟩ := digs_mem.1 hx
          exact HD.out i hi
        have hmain := ls_main k hk0 hk cc cs hdg (by rw [hcc]; exact HD0.out)
        have hO := lsO_props k hk0 hk cc cs hdg (by rw [hcc]; exact HD0.out)
        rw [← hcs, HDD.out] at hmain hO
        rw [hn1o1] at hmain
        have hOdef : lsO k (digs D nd) = ls2 dl n o := by unfold lsO; rw [hn1o1, HDD.out]
        obtain ⟨-, hnlt, -⟩ := hmain
        have HNLT := Lib.hid hnlt
        have HOO := Lib.hid hO
        have HODEF := Lib.hid hOdef
        have hWdl : W = dl := by have := HW.out; omega
        clear hnlt hO hOdef hcs hcc hdg hn1o1 hneg
        subst hWdl
        go_loopg [6, 7] W (fun M s6 s7 wr => ∃ (n2 : Int) (o2 : List Int) (E2 : Nat → Int) (t2 : Bool), s6 = .int .i64 M ∧ s7 = .int .u64 n2 ∧ lsO k (digs D nd) = ls2 M n2 o2 ∧ M ≤ W ∧
          Acc D E2 0 M (nd + W) o2 tr t2 ∧ 0 ≤ n2 ∧ n2 < 2 ^ k ∧ n2 < 10 ^ M ∧ RawAt wr g E2 nd dp ng t2 ∧ Only g w wr)
        case atStart => exact ⟨n, o, E, t, rfl, rfl, HODEF.out, Nat.le_refl _, HACC.out, hn1, hn2, HNLT.out, HRAW2.out, HON2.out⟩
        case round =>
          obtain ⟨n2, o2, E2, t2, rfl, rfl, hls2, hMW, hacc2, hn20, hn21, hn22, hraw3, hon3⟩ := hrel
          have HLS2 := Lib.hid hls2
          have HACC2 := Lib.hid hacc2
          have HRAW2 := Lib.hid hraw3
          have HON2 := Lib.hid hon3
          have HN22 := Lib.hid hn22
          clear hls2 hacc2 hraw3 hon3 hn22
          by_cases hz : n2 = 0
          · subst hz
            have cnd3 := HRAW2.out.cnd
            have cdp3 := HRAW2.out.cdp
            have f800 := HRAW2.out.frz 800
            have f801 := HRAW2.out.frz 801
            by_cases h8 : (800 : Int) ≤ (nd : Int) + (W : Int)
            · have HR5 : RawAt ((((wr.setCell ⟨g, 800, none⟩ (.int .i64 ((nd : Int) + (W : Int)))).setCell ⟨g, 800, none⟩ (.int .i64 800)).setCell ⟨g, 801, none⟩ (.int .i64 (dp + W)))) g E2 ((800 : Nat) : Int) (dp + W) ng t2 := ((HRAW2.out.setNd _).setNd _).setDp _
              have HH7 : Only g w ((((wr.setCell ⟨g, 800, none⟩ (.int .i64 ((nd : Int) + (W : Int)))).setCell ⟨g, 800, none⟩ (.int .i64 800)).setCell ⟨g, 801, none⟩ (.int .i64 (dp + W)))) := ((HON2.out.setCell _ _).setCell _ _).setCell _ _
              go_wp2_with fail
              refine (trim_any _ g E2 800 _ ng t2 HR5 (by omega)).mono ?_
              rintro e1 w5 ⟨rfl, n5, hn5, htr, hraw6, hon5⟩
              go_wp2
              go_end0
              have hO := HOO.out
              have hlo : lsO k (digs D nd) = o2 := by
                rw [HLS2.out]
                cases gk with
                | zero => rfl
                | succ m => rw [ls2, if_pos rfl]
              have hlen := HACC2.out.len
              rw [hlo] at hO
              have hg0 : gk = 0 := by have := hO.1; rw [digs_length] at this; omega
              have hmk := HACC2.out.mark
              rw [hg0] at hmk hlen
              have htake : digs E2 800 = (lsO k (digs D nd)).take 800 := by
                rw [hlo]
                refine List.ext_getElem? fun i => ?_
                by_cases hi : i < 800
                · have := HACC2.out.new i (by omega) (by omega) (by omega)
                  rw [hg0, Nat.sub_zero] at this
                  rw [digs_get E2 hi, List.getElem?_take, if_pos (by omega), this]
                · rw [List.getElem?_eq_none (by rw [digs_length]; omega), List.getElem?_eq_none (by rw [List.length_take]; omega)]
              have hF : lsF k (digs D nd) dp tr = (digs E2 n5, (if n5 = 0 then 0 else dp + W), t2) := by
                unfold lsF
                rw [← htake, ← htr, hlo, HDD.out, hmk]
                congr 2
                by_cases h0 : n5 = 0
                · subst h0; rfl
                · rw [if_neg h0, if_neg]
                  intro e
                  have := congrArg List.length e
                  rw [digs_length] at this
                  exact h0 this
              rw [hF]
              refine ⟨rfl, ⟨E2, ?_, ?_⟩, ?_⟩
              · rw [digs_length]; exact hraw6
              · rw [digs_length]
              · exact HH7.trans hon5
            · have h8' : (nd : Int) + (W : Int) < 800 := by omega
              have HR5 : RawAt ((wr.setCell ⟨g, 800, none⟩ (.int .i64 ((nd : Int) + (W : Int)))).setCell ⟨g, 801, none⟩ (.int .i64 (dp + W))) g E2 ((nd + W : Nat) : Int) (dp + W) ng t2 := (HRAW2.out.setNd _).setDp _
              have HH7 : Only g w ((wr.setCell ⟨g, 800, none⟩ (.int .i64 ((nd : Int) + (W : Int)))).setCell ⟨g, 801, none⟩ (.int .i64 (dp + W))) := (HON2.out.setCell _ _).setCell _ _
              go_wp2_with fail
              refine (trim_any _ g E2 (nd + W) _ ng t2 HR5 (by omega)).mono ?_
              rintro e1 w5 ⟨rfl, n5, hn5, htr, hraw6, hon5⟩
              go_wp2
              go_end0
              have hO := HOO.out
              have hlo : lsO k (digs D nd) = o2 := by
                rw [HLS2.out]
                cases gk with
                | zero => rfl
                | succ m => rw [ls2, if_pos rfl]
              have hlen := HACC2.out.len
              rw [hlo] at hO
              have hg0 : gk = 0 := by have := hO.1; rw [digs_length] at this; omega
              have hmk := HACC2.out.mark
              rw [hg0] at hmk hlen
              have htake : digs E2 (nd + W) = (lsO k (digs D nd)).take 800 := by
                rw [hlo]
                refine List.ext_getElem? fun i => ?_
                by_cases hi : i < (nd + W)
                · have := HACC2.out.new i (by omega) (by omega) (by omega)
                  rw [hg0, Nat.sub_zero] at this
                  rw [digs_get E2 hi, List.getElem?_take, if_pos (by omega), this]
                · rw [List.getElem?_eq_none (by rw [digs_length]; omega), List.getElem?_eq_none (by rw [List.length_take]; omega)]
              have hF : lsF k (digs D nd) dp tr = (digs E2 n5, (if n5 = 0 then 0 else dp + W), t2) := by
                unfold lsF
                rw [← htake, ← htr, hlo, HDD.out, hmk]
                congr 2
                by_cases h0 : n5 = 0
                · subst h0; rfl
                · rw [if_neg h0, if_neg]
                  intro e
                  have := congrArg List.length e
                  rw [digs_length] at this
                  exact h0 this
              rw [hF]
              refine ⟨rfl, ⟨E2, ?_, ?_⟩, ?_⟩
              · rw [digs_length]; exact hraw6
              · rw [digs_length]
              · exact HH7.trans hon5
          · have hpos : 0 < n2 := by omega
            obtain ⟨W', rfl⟩ : ∃ W', gk = W' + 1 := by
              refine ⟨gk - 1, ?_⟩
              by_cases h0 : gk = 0
              · have := HN22.out; rw [h0] at this; simp at this; omega
              · omega
            have hw1 : (((W' + 1 : Nat) : Int) - 1) = (W' : Int) := by omega
            obtain ⟨q, hq⟩ : ∃ q, n2 / 10 = q := ⟨_, rfl⟩
            have hq0 : 0 ≤ q := by omega
            have hq1 : q < 2 ^ k := by omega
            have hq2 : 10 * q ≤ n2 := by omega
            obtain ⟨rr, hrr⟩ : ∃ rr, n2 - 10 * q = rr := ⟨_, rfl⟩
            have hrm : n2 % 10 = rr := by omega
            have hr1 : 0 ≤ rr := by omega
            have hr2 : rr ≤ 9 := by omega
            have hstep : lsO k (digs D nd) = ls2 W' q ((rr + 48) :: o2) ∧ q < 10 ^ W' := by
              refine ⟨by rw [HLS2.out, ls2, if_neg hz, hq, hrm], ?_⟩
              have := HN22.out
              rw [Int.pow_succ] at this
              omega
            have HST := Lib.hid hstep
            have h10 : n2 < 10 * 2 ^ k := by omega
            have hW8 : (W' : Int) ≤ 861 := by omega
            clear hstep hrm hz
            have hu8 : IntKind.u8.wrap (rr + 48) = rr + 48 := by rw [IntKind.wrap_u8]; omega
            have hw80 : W' < 800 := by omega
            have hw80' : (W' : Int) < 800 := by omega
            have cw := HRAW2.out.dig (i := W') hw80
            have fw := HRAW2.out.frz W'
            go_wp2
            go_roundg W'
            case measure => omega
            case rel =>
              exact ⟨q, _, _, t2, by go_num, (by first | rfl | rw [hq]), HST.out.1, by omega, HACC2.out.store (by omega) (by omega) hw80, hq0, hq1, HST.out.2, HRAW2.out.setDig hw80 _, HON2.out.setCell _ _⟩
      · obtain ⟨m, rfl⟩ : ∃ m, gk = m + 1 := ⟨gk - 1, by omega⟩
        obtain ⟨W', rfl⟩ : ∃ W', W = W' + 1 := ⟨W - 1, by have := HW.out; omega⟩
        have hm1 : (((m + 1 : Nat) : Int) - 1) = (m : Int) := by omega
        have hw1 : (((W' + 1 : Nat) : Int) - 1) = (W' : Int) := by omega
        have hm8 : (m : Int) < 800 := by omega
        have hW8 : (W' : Int) ≤ 861 := by have := HW.out; omega
        have cd := HRAW2.out.dig (i := m) (by omega)
        have hed : E m = D m := HACC.out.old m (by omega)
        obtain ⟨d1, d2⟩ := HD.out m (by omega)
        rw [← hed] at d1 d2
        have HED := Lib.hid hed
        have hy0 : 0 ≤ (E m - 48) * 2 ^ k := Int.mul_nonneg (by omega) (by omega)
        have hy1 : (E m - 48) * 2 ^ k ≤ 9 * 2 ^ k := Int.mul_le_mul_of_nonneg_right (by omega) (by omega)
        obtain ⟨y, hy⟩ : ∃ y, (E m - 48) * 2 ^ k = y := ⟨_, rfl⟩
        rw [hy] at hy0 hy1
        obtain ⟨x, hx⟩ : ∃ x, n + y = x := ⟨_, rfl⟩
        have hx0 : 0 ≤ x := by omega
        have hx1 : x < 18446744073709551616 := by omega
        have hx2 : x < 10 * 2 ^ k := by omega
        obtain ⟨q, hq⟩ : ∃ q, x / 10 = q := ⟨_, rfl⟩
        have hq0 : 0 ≤ q := by omega
        have hq1 : q < 2 ^ k := by omega
        have hq2 : 10 * q ≤ x := by omega
        obtain ⟨rr, hrr⟩ : ∃ rr, x - 10 * q = rr := ⟨_, rfl⟩
        have hrm : x % 10 = rr := by omega
        have hr1 : 0 ≤ rr := by omega
        have hr2 : rr ≤ 9 := by omega
        have HRM := Lib.hid hrm
        have hstep : ls1 k (digs D nd).reverse 0 [] = ls1 k (digs D m).reverse q ((rr + 48) :: o) := by
          rw [HLS.out, digs_succ, List.reverse_append, List.reverse_singleton, List.singleton_append, ls1, ← hed, hy, hx, hq, hrm]
        have HST := Lib.hid hstep
        clear hed hstep hrm
        have hu8 : IntKind.u8.wrap (rr + 48) = rr + 48 := by rw [IntKind.wrap_u8]; omega
        by_cases hw80 : W' < 800
        · have hw80' : (W' : Int) < 800 := by omega
          have cw := HRAW2.out.dig (i := W') hw80
          have fw := HRAW2.out.frz W'
          go_wp2
          go_roundg m
          case measure => omega
          case rel =>
            exact ⟨W', q, _, _, t, by go_num, rfl, (by first | rfl | rw [hq]), by omega, by have := HW.out; omega, HST.out, HACC.out.store (by omega) (by have := HW.out; omega) hw80, by have := HOL.out; simp; omega, hq0, hq1, HRAW2.out.setDig hw80 _, HON2.out.setCell _ _⟩
        · have hw80' : (800 : Int) ≤ W' := by omega
          have ftr := HRAW2.out.frz 803
          have ctr := HRAW2.out.ctr
          by_cases hr0 : rr = 0
          · have hr0' : (rr != 0) = false := by simpa using hr0
            have HR0 := Lib.hid hr0
            clear hr0
            go_wp2
            go_roundg m
            case measure => omega
            case rel =>
              exact ⟨W', q, _, _, t, by go_num, rfl, (by first | rfl | rw [hq]), by omega, by have := HW.out; omega, HST.out, HACC.out.drop0 (by omega) (by have := HW.out; omega) (by omega) HR0.out, by have := HOL.out; simp; omega, hq0, hq1, HRAW2.out, HON2.out⟩
          · have hr0' : (rr != 0) = true := by simpa using hr0
            have HR0 := Lib.hid hr0
            clear hr0
            go_wp2
            go_roundg m
            case measure => omega
            case rel =>
              exact ⟨W', q, _, _, true, by go_num, rfl, (by first | rfl | rw [hq]), by omega, by have := HW.out; omega, HST.out, HACC.out.drop1 (by omega) (by have := HW.out; omega) (by omega) HR0.out, by have := HOL.out; simp; omega, hq0, hq1, HRAW2.out.setTr true, HON2.out.setCell _ _⟩
end Go.Proofs.YthfjakbpeclfcaaGreatDoor
