/-
  The library's special values of ParseFloat: on a word, and on a sign of the grammar.
  The library's readFloat on what is no number: a word, a sign of the grammar, a minus alone, nothing.
-/
import Derived.Test.YthfjakbpeclfcaaGreatDoorSp
import Derived.Test.YthfjakbpeclfcaaGreatDoorGShA
namespace Go.Proofs.YthfjakbpeclfcaaGreatDoor
open Go.RowKit Go
section
attribute [local go_sem] run_f132
theorem inf_pos (w : World) : Calls Tryz.prog 139 #[.int .i64 1] w fun e w' => e = .returned (.float .f64 9218868437227405312) ∧ w' = w := by
  go_enter Tryz.func139, Tryz.ntmps139
  go_wp2
  go_ret
  exact ⟨rfl, rfl⟩
theorem nan_any (w : World) : Calls Tryz.prog 140 #[] w fun e w' => e = .returned (.float .f64 9221120237041090561) ∧ w' = w := by
  go_enter Tryz.func140, Tryz.ntmps140
  go_wp2
  go_ret
  exact ⟨rfl, rfl⟩
end

def oddV (f : Nat) : Prop := f = 9218868437227405312 ∨ f = 9221120237041090561
theorem cpl_le : ∀ (L P : List UInt8), cpl L P ≤ P.length
  | [], _ => Nat.zero_le _
  | _ :: _, [] => Nat.zero_le _
  | c :: cs, p :: ps => by
    unfold cpl
    split
    · have := cpl_le cs ps
      rw [List.length_cons]
      omega
    · exact Nat.zero_le _

def spOut (e : Ending) : Prop := ∃ (f : Nat) (n : Int) (b : Bool), e = .returned (.tuple #[.float .f64 f, .int .i64 n, .bool b]) ∧ (b = true → oddV f)
theorem spOut_no (f : Nat) (n : Int) : spOut (.returned (.tuple #[.float .f64 f, .int .i64 n, .bool false])) := ⟨f, n, false, rfl, fun h => by cases h⟩
theorem spOut_inf (n : Int) : spOut (.returned (.tuple #[.float .f64 9218868437227405312, .int .i64 n, .bool true])) := ⟨_, n, true, rfl, fun _ => .inl rfl⟩
theorem spOut_nan (n : Int) : spOut (.returned (.tuple #[.float .f64 9221120237041090561, .int .i64 n, .bool true])) := ⟨_, n, true, rfl, fun _ => .inr rfl⟩

set_option maxHeartbeats 1000000 in
set_option maxRecDepth 100000 in
theorem sp_word (w : World) (S : ByteArray) (c0 : UInt8) (h0 : 0 < S.size) (hb : S[0] = c0) (h43 : c0.toNat ≠ 43) (h45 : c0.toNat ≠ 45) (hsz : S.size ≤ 100000) :
    Calls Tryz.prog 122 #[.string S] w fun e w' => spOut e ∧ w' = w := by
  have hSe : ¬ S = ByteArray.empty := by
    rintro rfl
    exact absurd h0 (by decide)
  have n1 : ((c0.toNat : Int) == 43) = false := by simp; omega
  have n2 : ((c0.toNat : Int) == 45) = false := by simp; omega
  clear h43 h45
  have hcp := cpl_any w S ⟨#[105, 110, 102, 105, 110, 105, 116, 121]⟩ hsz (by decide)
  have hle : cpl S.data.toList (ByteArray.mk #[105, 110, 102, 105, 110, 105, 116, 121]).data.toList ≤ 8 := cpl_le S.data.toList [105, 110, 102, 105, 110, 105, 116, 121]
  generalize cpl S.data.toList (ByteArray.mk #[105, 110, 102, 105, 110, 105, 116, 121]).data.toList = q at *
  have hcn := cpl_any w S ⟨#[110, 97, 110]⟩ hsz (by decide)
  generalize cpl S.data.toList (ByteArray.mk #[110, 97, 110]).data.toList = r at *
  by_cases a1 : c0.toNat = 105
  · have n3 : ((c0.toNat : Int) == 105) = true := by simp; omega
    have hqc : q < 3 ∨ q = 3 ∨ (3 < q ∧ q < 8) ∨ q = 8 := by omega
    clear hcn
    rcases hqc with hq | rfl | ⟨hq1, hq2⟩ | rfl
    · have q1 : (q : Int) ≤ 3 := by omega
      have q2 : ((q : Int) == 3) = false := by simp; omega
      have q3 : ((q : Int) == 8) = false := by simp; omega
      go_enter Tryz.func122, Tryz.ntmps122
      go_wp2_with (first | (go_at_call 138; refine hcp.mono ?_; rintro e w' ⟨rfl, rfl⟩) | (go_at_call 139; refine (inf_pos _).mono ?_; rintro e w' ⟨rfl, rfl⟩))
      refine bodyPost_ret (results_tmp3 rfl _ _ _) rfl ?_
      exact ⟨spOut_no _ _, rfl⟩
    · go_enter Tryz.func122, Tryz.ntmps122
      go_wp2_with (first | (go_at_call 138; refine hcp.mono ?_; rintro e w' ⟨rfl, rfl⟩) | (go_at_call 139; refine (inf_pos _).mono ?_; rintro e w' ⟨rfl, rfl⟩))
      refine bodyPost_ret (results_tmp3 rfl _ _ _) rfl ?_
      exact ⟨spOut_inf _, rfl⟩
    · have q1 : (3 : Int) < q := by omega
      have q2 : (q : Int) < 8 := by omega
      go_enter Tryz.func122, Tryz.ntmps122
      go_wp2_with (first | (go_at_call 138; refine hcp.mono ?_; rintro e w' ⟨rfl, rfl⟩) | (go_at_call 139; refine (inf_pos _).mono ?_; rintro e w' ⟨rfl, rfl⟩))
      refine bodyPost_ret (results_tmp3 rfl _ _ _) rfl ?_
      exact ⟨spOut_inf _, rfl⟩
    · go_enter Tryz.func122, Tryz.ntmps122
      go_wp2_with (first | (go_at_call 138; refine hcp.mono ?_; rintro e w' ⟨rfl, rfl⟩) | (go_at_call 139; refine (inf_pos _).mono ?_; rintro e w' ⟨rfl, rfl⟩))
      refine bodyPost_ret (results_tmp3 rfl _ _ _) rfl ?_
      exact ⟨spOut_inf _, rfl⟩
  · have n3 : ((c0.toNat : Int) == 105) = false := by simp; omega
    by_cases a2 : c0.toNat = 73
    · have n4 : ((c0.toNat : Int) == 73) = true := by simp; omega
      have hqc : q < 3 ∨ q = 3 ∨ (3 < q ∧ q < 8) ∨ q = 8 := by omega
      clear hcn
      rcases hqc with hq | rfl | ⟨hq1, hq2⟩ | rfl
      · have q1 : (q : Int) ≤ 3 := by omega
        have q2 : ((q : Int) == 3) = false := by simp; omega
        have q3 : ((q : Int) == 8) = false := by simp; omega
        go_enter Tryz.func122, Tryz.ntmps122
        go_wp2_with (first | (go_at_call 138; refine hcp.mono ?_; rintro e w' ⟨rfl, rfl⟩) | (go_at_call 139; refine (inf_pos _).mono ?_; rintro e w' ⟨rfl, rfl⟩))
        refine bodyPost_ret (results_tmp3 rfl _ _ _) rfl ?_
        exact ⟨spOut_no _ _, rfl⟩
      · go_enter Tryz.func122, Tryz.ntmps122
        go_wp2_with (first | (go_at_call 138; refine hcp.mono ?_; rintro e w' ⟨rfl, rfl⟩) | (go_at_call 139; refine (inf_pos _).mono ?_; rintro e w' ⟨rfl, rfl⟩))
        refine bodyPost_ret (results_tmp3 rfl _ _ _) rfl ?_
        exact ⟨spOut_inf _, rfl⟩
      · have q1 : (3 : Int) < q := by omega
        have q2 : (q : Int) < 8 := by omega
        go_enter Tryz.func122, Tryz.ntmps122
        go_wp2_with (first | (go_at_call 138; refine hcp.mono ?_; rintro e w' ⟨rfl, rfl⟩) | (go_at_call 139; refine (inf_pos _).mono ?_; rintro e w' ⟨rfl, rfl⟩))
        refine bodyPost_ret (results_tmp3 rfl _ _ _) rfl ?_
        exact ⟨spOut_inf _, rfl⟩
      · go_enter Tryz.func122, Tryz.ntmps122
        go_wp2_with (first | (go_at_call 138; refine hcp.mono ?_; rintro e w' ⟨rfl, rfl⟩) | (go_at_call 139; refine (inf_pos _).mono ?_; rintro e w' ⟨rfl, rfl⟩))
        refine bodyPost_ret (results_tmp3 rfl _ _ _) rfl ?_
        exact ⟨spOut_inf _, rfl⟩
    · have n4 : ((c0.toNat : Int) == 73) = false := by simp; omega
      by_cases a3 : c0.toNat = 110
      · have n5 : ((c0.toNat : Int) == 110) = true := by simp; omega
        clear hcp
        by_cases hr : r = 3
        · subst hr
          go_enter Tryz.func122, Tryz.ntmps122
          go_wp2_with (first | (go_at_call 138; refine hcn.mono ?_; rintro e w' ⟨rfl, rfl⟩) | (go_at_call 140; refine (nan_any _).mono ?_; rintro e w' ⟨rfl, rfl⟩))
          refine bodyPost_ret (results_tmp3 rfl _ _ _) rfl ?_
          exact ⟨spOut_nan _, rfl⟩
        · have q1 : ((r : Int) == 3) = false := by simp; omega
          go_enter Tryz.func122, Tryz.ntmps122
          go_wp2_with (first | (go_at_call 138; refine hcn.mono ?_; rintro e w' ⟨rfl, rfl⟩) | (go_at_call 140; refine (nan_any _).mono ?_; rintro e w' ⟨rfl, rfl⟩))
          refine bodyPost_ret (results_tmp3 rfl _ _ _) rfl ?_
          exact ⟨spOut_no _ _, rfl⟩
      · have n5 : ((c0.toNat : Int) == 110) = false := by simp; omega
        by_cases a4 : c0.toNat = 78
        · have n6 : ((c0.toNat : Int) == 78) = true := by simp; omega
          clear hcp
          by_cases hr : r = 3
          · subst hr
            go_enter Tryz.func122, Tryz.ntmps122
            go_wp2_with (first | (go_at_call 138; refine hcn.mono ?_; rintro e w' ⟨rfl, rfl⟩) | (go_at_call 140; refine (nan_any _).mono ?_; rintro e w' ⟨rfl, rfl⟩))
            refine bodyPost_ret (results_tmp3 rfl _ _ _) rfl ?_
            exact ⟨spOut_nan _, rfl⟩
          · have q1 : ((r : Int) == 3) = false := by simp; omega
            go_enter Tryz.func122, Tryz.ntmps122
            go_wp2_with (first | (go_at_call 138; refine hcn.mono ?_; rintro e w' ⟨rfl, rfl⟩) | (go_at_call 140; refine (nan_any _).mono ?_; rintro e w' ⟨rfl, rfl⟩))
            refine bodyPost_ret (results_tmp3 rfl _ _ _) rfl ?_
            exact ⟨spOut_no _ _, rfl⟩
        · have n6 : ((c0.toNat : Int) == 78) = false := by simp; omega
          clear hcp hcn
          go_enter Tryz.func122, Tryz.ntmps122
          go_wp2
          refine bodyPost_ret (results_tmp3 rfl _ _ _) rfl ?_
          exact ⟨spOut_no _ _, rfl⟩

set_option maxHeartbeats 1000000 in
set_option maxRecDepth 100000 in
theorem sp_minus (w : World) (S : ByteArray) (hS : S.data.toList = [45]) : Calls Tryz.prog 122 #[.string S] w fun e w' => spOut e ∧ w' = w := by
  have hsz : S.size = 1 := by rw [← bytes_len, hS]; rfl
  have hx : (S.extract 1 S.size).data.toList = [] := by rw [ext_tail, hS]; rfl
  have hxs : (S.extract 1 S.size).size ≤ 100000 := by rw [← bytes_len, hx]; decide
  have hcp := cpl_any w (S.extract 1 S.size) ⟨#[105, 110, 102, 105, 110, 105, 116, 121]⟩ hxs (by decide)
  rw [hx] at hcp
  have hcp2 : Calls Tryz.prog 138 #[.string (S.extract 1 S.size), .string ⟨#[105, 110, 102, 105, 110, 105, 116, 121]⟩] w fun e w' => e = .returned (.int .i64 0) ∧ w' = w := hcp
  have h0 : 0 < S.size := by omega
  have h1 : (1 : Int) ≤ S.size := by omega
  have hSe : ¬ S = ByteArray.empty := by
    rintro rfl
    exact absurd h0 (by decide)
  have hb : S[0] = 45 := byte_at (by rw [hS]; rfl) h0
  clear hx hxs hcp hsz
  clear hS
  go_enter Tryz.func122, Tryz.ntmps122
  go_wp2_with fail
  generalize S.extract 1 S.size = S1 at *
  refine hcp2.mono ?_
  rintro e w' ⟨rfl, rfl⟩
  go_wp2
  refine bodyPost_ret (results_tmp3 rfl _ _ _) rfl ?_
  exact ⟨spOut_no _ _, rfl⟩
theorem sp_empty (w : World) : Calls Tryz.prog 122 #[.string ByteArray.empty] w fun e w' => spOut e ∧ w' = w := by
  go_enter Tryz.func122, Tryz.ntmps122
  go_wp2
  refine bodyPost_ret (results_tmp3 rfl _ _ _) rfl ?_
  exact ⟨spOut_no _ _, rfl⟩
end Go.Proofs.YthfjakbpeclfcaaGreatDoor

namespace Go.Proofs.YthfjakbpeclfcaaGreatDoor
open Go.RowKit Go

def rfBad (i : Int) (ng : Bool) : Ending := .returned (.tuple #[.int .u64 0, .int .i64 0, .bool ng, .bool false, .bool false, .int .i64 i, .bool false])

set_option maxHeartbeats 1000000 in
set_option maxRecDepth 100000 in
theorem rf_word (w : World) (S : ByteArray) (c0 : UInt8) (h0 : 0 < S.size) (hb : S[0] = c0) (h43 : c0.toNat ≠ 43) (h45 : c0.toNat ≠ 45) (h95 : c0.toNat ≠ 95) (h46 : c0.toNat ≠ 46)
    (hd : c0.toNat < 48 ∨ 57 < c0.toNat) (hsz : S.size ≤ 100000) :
    Calls Tryz.prog 123 #[.string S] w fun e w' => e = rfBad 0 false ∧ ∃ n, w' = w.drewN n := by
  have hSe : ¬ S = ByteArray.empty := by
    rintro rfl
    exact absurd h0 (by decide)
  have h0' : (0 : Int) < S.size := by omega
  have n1 : ((c0.toNat : Int) == 43) = false := by simp; omega
  have n2 : ((c0.toNat : Int) == 45) = false := by simp; omega
  have n3 : ((c0.toNat : Int) == 95) = false := by simp; omega
  have n4 : ((c0.toNat : Int) == 46) = false := by simp; omega
  have n5 : ((c0.toNat : Int) == 48) = false := by simp; omega
  have n6 : (decide ((48 : Int) ≤ c0.toNat) && decide ((c0.toNat : Int) ≤ 57)) = false := by
    rcases hd with h | h <;> simp <;> omega
  clear h43 h45 h95 h46
  go_enter Tryz.func123, Tryz.ntmps123
  go_wp2
  go_step3
  go_upto_block 0 with fail
  go_cut [4, 7] (fun s4 s7 wx => wx = w ∧ s4 = .bool false ∧ s7 = .int .i64 0)
  case first =>
    go_wp2
    go_meet
    exact ⟨rfl, rfl, rfl⟩
  case rest =>
    obtain ⟨rfl, rfl, rfl⟩ := hcut
    go_upto_region 12 with fail
    go_cut [54] (fun s54 wx => wx = wc ∧ s54 = .bool false)
    case first =>
      by_cases h2 : 2 < S.size
      · have h2' : (2 : Int) < S.size := by omega
        go_wp2
        go_meet
        exact ⟨rfl, rfl⟩
      · have h2' : (S.size : Int) ≤ 2 := by omega
        go_wp2
        go_meet
        exact ⟨rfl, rfl⟩
    case rest =>
      obtain ⟨rfl, rfl⟩ := hcut
      go_wp2
      go_step3
      go_upto_block 1 with fail
      go_cut [2, 5, 7, 9, 13, 14, 15, 16, 17] (fun s2 s5 s7 s9 s13 s14 s15 s16 s17 wx => (∃ n, wx = wc.drewN n) ∧ s2 = .int .u64 0 ∧ s5 = .bool false ∧ s7 = .int .i64 0 ∧ s14 = .bool false)
      case first =>
        go_wp2_with fail
        go_loopg [2, 5, 7, 9, 13, 14, 15, 16, 17] 0 (fun G s2 s5 s7 s9 s13 s14 s15 s16 s17 wr => wr = wc ∧ s2 = .int .u64 0 ∧ s5 = .bool false ∧ s7 = .int .i64 0 ∧ s9 = .bool false ∧ s13 = .bool false ∧ s14 = .bool false ∧ s15 = .int .i64 0 ∧ s16 = .int .i64 0 ∧ s17 = .int .i64 0)
        case atStart => exact ⟨rfl, rfl, rfl, rfl, rfl, rfl, rfl, rfl, rfl, rfl⟩
        case round =>
          obtain ⟨rfl, rfl, rfl, rfl, rfl, rfl, rfl, rfl, rfl, rfl⟩ := hrel
          rcases hd with hd | hd
          · have hd' : (c0.toNat : Int) < 48 := by omega
            as_aux_lemma =>
              go_wp2
              go_meet
              exact ⟨⟨0, rfl⟩, rfl, rfl, rfl, rfl⟩
          · have hd' : (57 : Int) < c0.toNat := by omega
            have hd2 : (48 : Int) ≤ c0.toNat := by omega
            as_aux_lemma =>
              go_wp2
              go_meet
              exact ⟨⟨0, rfl⟩, rfl, rfl, rfl, rfl⟩
      case rest =>
        obtain ⟨⟨n, rfl⟩, rfl, rfl, rfl, rfl⟩ := hcut
        go_wp2
        rw [Exit.noGoto_ret]
        refine bodyPost_ret (results_tmp7 rfl _ _ _) rfl ?_
        exact ⟨rfl, n, rfl⟩

set_option maxHeartbeats 1000000 in
set_option maxRecDepth 100000 in
theorem rf_minus (w : World) (S : ByteArray) (hS : S.data.toList = [45]) :
    Calls Tryz.prog 123 #[.string S] w fun e w' => e = rfBad 1 true ∧ ∃ n, w' = w.drewN n := by
  have hsz : S.size = 1 := by rw [← bytes_len, hS]; rfl
  have h0 : 0 < S.size := by omega
  have hSe : ¬ S = ByteArray.empty := by
    rintro rfl
    exact absurd h0 (by decide)
  have hb : S[0] = 45 := byte_at (by rw [hS]; rfl) h0
  have h1 : (S.size : Int) ≤ 1 := by omega
  have h2 : (0 : Int) < S.size := by omega
  have h3 : (S.size : Int) ≤ 3 := by omega
  clear hS hsz
  go_enter Tryz.func123, Tryz.ntmps123
  go_wp2
  go_step3
  go_upto_block 0 with fail
  go_cut [4, 7] (fun s4 s7 wx => wx = w ∧ s4 = .bool true ∧ s7 = .int .i64 1)
  case first =>
    go_wp2
    go_meet
    exact ⟨rfl, rfl, rfl⟩
  case rest =>
    obtain ⟨rfl, rfl, rfl⟩ := hcut
    go_upto_region 12 with fail
    go_cut [54] (fun s54 wx => wx = wc ∧ s54 = .bool false)
    case first =>
      go_wp2
      go_meet
      exact ⟨rfl, rfl⟩
    case rest =>
      obtain ⟨rfl, rfl⟩ := hcut
      go_wp2
      go_step3
      go_upto_block 1 with fail
      go_cut [2, 5, 7, 9, 13, 14, 15, 16, 17] (fun s2 s5 s7 s9 s13 s14 s15 s16 s17 wx => (∃ n, wx = wc.drewN n) ∧ s2 = .int .u64 0 ∧ s5 = .bool false ∧ s7 = .int .i64 1 ∧ s14 = .bool false)
      case first =>
        go_wp2_with fail
        go_loopg [2, 5, 7, 9, 13, 14, 15, 16, 17] 0 (fun G s2 s5 s7 s9 s13 s14 s15 s16 s17 wr => wr = wc ∧ s2 = .int .u64 0 ∧ s5 = .bool false ∧ s7 = .int .i64 1 ∧ s9 = .bool false ∧ s13 = .bool false ∧ s14 = .bool false ∧ s15 = .int .i64 0 ∧ s16 = .int .i64 0 ∧ s17 = .int .i64 0)
        case atStart => exact ⟨rfl, rfl, rfl, rfl, rfl, rfl, rfl, rfl, rfl, rfl⟩
        case round =>
          obtain ⟨rfl, rfl, rfl, rfl, rfl, rfl, rfl, rfl, rfl, rfl⟩ := hrel
          as_aux_lemma =>
            go_wp2
            go_meet
            exact ⟨⟨0, rfl⟩, rfl, rfl, rfl, rfl⟩
      case rest =>
        obtain ⟨⟨n, rfl⟩, rfl, rfl, rfl, rfl⟩ := hcut
        go_wp2
        rw [Exit.noGoto_ret]
        refine bodyPost_ret (results_tmp7 rfl _ _ _) rfl ?_
        exact ⟨rfl, n, rfl⟩

set_option maxHeartbeats 1000000 in
set_option maxRecDepth 100000 in
theorem rf_empty (w : World) : Calls Tryz.prog 123 #[.string ByteArray.empty] w fun e w' => e = rfBad 0 false ∧ w' = w := by
  go_enter Tryz.func123, Tryz.ntmps123
  go_wp2
  go_step3
  go_wp2
  rw [Exit.noGoto_ret]
  refine bodyPost_ret (results_tmp7 rfl _ _ _) rfl ?_
  exact ⟨rfl, rfl⟩
end Go.Proofs.YthfjakbpeclfcaaGreatDoor
