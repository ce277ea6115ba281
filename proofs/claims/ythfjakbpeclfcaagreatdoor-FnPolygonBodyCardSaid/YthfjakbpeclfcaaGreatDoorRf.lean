/-
  The library's readFloat on a decimal of the grammar.
-/
import Derived.Test.YthfjakbpeclfcaaGreatDoorGMm
import Derived.WalkMore
namespace Go.Proofs.YthfjakbpeclfcaaGreatDoor
open Go.RowKit Go

def low (c : Int) : Int := bits .or .u8 c 32
theorem lower_any (c : Int) (w : World) : Calls Tryz.prog 141 #[.int .u8 c] w fun e w' => e = .returned (.int .u8 (low c)) ∧ w = w' := by
  go_enter Tryz.func141, Tryz.ntmps141
  as_aux_lemma =>
    go_wp2
    go_ret
    exact ⟨rfl, rfl⟩
theorem low_fin : ∀ n : Fin 256, (low (n.val : Int) = 120 → n.val = 88 ∨ n.val = 120) ∧ (low (n.val : Int) = 101 ↔ n.val = 69 ∨ n.val = 101) ∧ (97 ≤ low (n.val : Int) → 65 ≤ n.val) := by decide +kernel
theorem low_x (b : UInt8) (h : low (b.toNat : Int) = 120) : b.toNat = 88 ∨ b.toNat = 120 := (low_fin ⟨b.toNat, b.toNat_lt⟩).1 h
theorem low_e (b : UInt8) : low (b.toNat : Int) = 101 ↔ b.toNat = 69 ∨ b.toNat = 101 := (low_fin ⟨b.toNat, b.toNat_lt⟩).2.1

structure RS where
  m : Int
  nd : Nat
  nm : Nat
  dp : Int
  dot : Bool
  dg : Bool
  tr : Bool
def rs0 : RS := ⟨0, 0, 0, 0, false, false, false⟩
def rStep (s : RS) (c : UInt8) : RS :=
  if c.toNat = 46 then { s with dot := true, dp := s.nd }
  else if c.toNat = 48 ∧ s.nd = 0 then { s with dg := true, dp := s.dp - 1 }
  else if s.nm < 19 then { s with dg := true, nd := s.nd + 1, nm := s.nm + 1, m := IntKind.u64.wrap (IntKind.u64.wrap (s.m * 10) + ((c.toNat : Int) - 48)) }
  else { s with dg := true, nd := s.nd + 1, tr := if c.toNat = 48 then s.tr else true }
/-- Digits, and at most one point. -/
def okM : Bool → List UInt8 → Prop
  | _, [] => True
  | d, c :: cs => (c.toNat = 46 ∧ d = false ∧ okM true cs) ∨ (48 ≤ c.toNat ∧ c.toNat ≤ 57 ∧ okM d cs)
def eStep (e : Int) (c : UInt8) : Int := if e < 10000 then e * 10 + (c.toNat : Int) - 48 else e
def isDg (c : UInt8) : Prop := 48 ≤ c.toNat ∧ c.toNat ≤ 57
/-- The exponent's text, and what it moves the point by. -/
inductive ExpIs : List UInt8 → Int → Prop
  | none : ExpIs [] 0
  | plain (ec : UInt8) (D : List UInt8) (h : ec.toNat = 69 ∨ ec.toNat = 101) (hD : D ≠ []) (hd : ∀ c ∈ D, isDg c) : ExpIs (ec :: D) (D.foldl eStep 0 * 1)
  | plus (ec : UInt8) (D : List UInt8) (h : ec.toNat = 69 ∨ ec.toNat = 101) (hD : D ≠ []) (hd : ∀ c ∈ D, isDg c) : ExpIs (ec :: 43 :: D) (D.foldl eStep 0 * 1)
  | minus (ec : UInt8) (D : List UInt8) (h : ec.toNat = 69 ∨ ec.toNat = 101) (hD : D ≠ []) (hd : ∀ c ∈ D, isDg c) : ExpIs (ec :: 45 :: D) (D.foldl eStep 0 * -1)

theorem byte_at {S : ByteArray} {i : Nat} {b : UInt8} (h : S.data.toList[i]? = some b) (hi : i < S.size) : S[i] = b := by
  cases S with
  | mk d =>
    have hi' : i < d.size := hi
    simp at h
    have := (Array.getElem?_eq_some_iff.1 h).2
    exact this

/-- The bytes that a decimal and its sign have. -/
def tokB (c : UInt8) : Prop := isDg c ∨ c.toNat = 46 ∨ c.toNat = 69 ∨ c.toNat = 101 ∨ c.toNat = 43 ∨ c.toNat = 45
theorem okM.tokB : ∀ {d : Bool} {M : List UInt8}, okM d M → ∀ c ∈ M, tokB c
  | _, [], _, c, h => absurd h (by simp)
  | d, a :: bs, h, c, hc => by
    rcases h with ⟨h1, -, h3⟩ | ⟨h1, h2, h3⟩ <;> rcases List.mem_cons.1 hc with rfl | hc
    · exact .inr (.inl h1)
    · exact okM.tokB h3 c hc
    · exact .inl ⟨h1, h2⟩
    · exact okM.tokB h3 c hc
theorem ExpIs.tokB {E : List UInt8} {x : Int} (h : ExpIs E x) : ∀ c ∈ E, tokB c := by
  intro c hc
  cases h with
  | none => simp at hc
  | plain ec D h hD hd =>
    rcases List.mem_cons.1 hc with rfl | hc
    · exact .inr (.inr (h.elim .inl (fun h => .inr (.inl h))))
    · exact .inl (hd c hc)
  | plus ec D h hD hd =>
    rcases List.mem_cons.1 hc with rfl | hc
    · exact .inr (.inr (h.elim .inl (fun h => .inr (.inl h))))
    · rcases List.mem_cons.1 hc with rfl | hc
      · exact .inr (.inr (.inr (.inr (.inl rfl))))
      · exact .inl (hd c hc)
  | minus ec D h hD hd =>
    rcases List.mem_cons.1 hc with rfl | hc
    · exact .inr (.inr (h.elim .inl (fun h => .inr (.inl h))))
    · rcases List.mem_cons.1 hc with rfl | hc
      · exact .inr (.inr (.inr (.inr (.inr rfl))))
      · exact .inl (hd c hc)

theorem results_tmp7 {fn : Func} {t u v a b c d : Tmp} (h : fn.results = #[.tmp t, .tmp u, .tmp v, .tmp a, .tmp b, .tmp c, .tmp d]) (tmps : Array Value) (P : Program) (w : World) :
    (results fn tmps).run P w = .ok (.tuple #[tmps.getD t undef, tmps.getD u undef, tmps.getD v undef, tmps.getD a undef, tmps.getD b undef, tmps.getD c undef, tmps.getD d undef]) w := by
  simp [results, h]

theorem eStep_bound : ∀ (D : List UInt8) (e : Int), (∀ c ∈ D, isDg c) → 0 ≤ e → e ≤ 100010 → 0 ≤ D.foldl eStep e ∧ D.foldl eStep e ≤ 100010
  | [], e, _, h0, h1 => ⟨h0, h1⟩
  | c :: cs, e, hd, h0, h1 => by
    obtain ⟨c1, c2⟩ := hd c (List.mem_cons_self ..)
    rw [List.foldl_cons]
    refine eStep_bound cs _ (fun c hc => hd c (List.mem_cons_of_mem _ hc)) ?_ ?_ <;> (unfold eStep; split <;> omega)
theorem ExpIs.bound {E : List UInt8} {x : Int} (h : ExpIs E x) : -200000 ≤ x ∧ x ≤ 200000 := by
  cases h with
  | none => omega
  | plain ec D h hD hd => have := eStep_bound D 0 hd (by omega) (by omega); omega
  | plus ec D h hD hd => have := eStep_bound D 0 hd (by omega) (by omega); omega
  | minus ec D h hD hd => have := eStep_bound D 0 hd (by omega) (by omega); omega

set_option maxHeartbeats 8000000 in
set_option maxRecDepth 100000 in
theorem rf_num (w : World) (S : ByteArray) (ng : Bool) (M E : List UInt8) (x : Int) (hl : S.data.toList = (if ng then [45] else []) ++ (M ++ E)) (hM : okM false M) (hg : (M.foldl rStep rs0).dg = true) (hE : ExpIs E x)
    (hsz : S.size ≤ 100000) :
    Calls Tryz.prog 123 #[.string S] w fun e w' => e = .returned (.tuple #[.int .u64 (M.foldl rStep rs0).m,
      .int .i64 (if (M.foldl rStep rs0).m = 0 then 0 else (if (M.foldl rStep rs0).dot then (M.foldl rStep rs0).dp else (M.foldl rStep rs0).nd) + x - (M.foldl rStep rs0).nm),
      .bool ng, .bool (M.foldl rStep rs0).tr, .bool false, .int .i64 S.size, .bool true]) ∧ ∃ n, w' = w.drewN n := by
  obtain ⟨c0, M', rfl⟩ : ∃ c cs, M = c :: cs := by
    cases M with
    | nil => exact absurd hg (by decide)
    | cons c cs => exact ⟨c, cs, rfl⟩
  have hS : S.size = (if ng then 1 else 0) + (M'.length + 1 + E.length) := by
    have : S.data.toList.length = S.size := by cases S; rfl
    rw [← this, hl]
    cases ng <;> simp <;> omega
  have hS0 : 0 < S.size := by cases ng <;> simp at hS <;> omega
  have hS0' : (0 : Int) < S.size := by omega
  have hSe : ¬ S = ByteArray.empty := by
    rintro rfl
    exact absurd hS0 (by decide)
  have hlen : S.data.toList.length = S.size := by cases S; rfl
  have hc0 : c0.toNat = 46 ∨ 48 ≤ c0.toNat ∧ c0.toNat ≤ 57 := by
    rcases hM with ⟨h, -, -⟩ | ⟨h1, h2, -⟩
    · exact .inl h
    · exact .inr ⟨h1, h2⟩
  have HL := Lib.hid hl
  have HM := Lib.hid hM
  have HG := Lib.hid hg
  have HE := Lib.hid hE
  have HS := Lib.hid hS
  have HLEN := Lib.hid hlen
  clear hl hM hg hE hS hlen
  go_enter Tryz.func123, Tryz.ntmps123
  go_wp2
  go_step3
  go_upto_block 0 with fail
  go_cut [4, 7] (fun s4 s7 wx => wx = w ∧ s4 = .bool ng ∧ s7 = .int .i64 ((if ng then 1 else 0 : Nat) : Int))
  case first =>
    cases ng
    · have hb : S[0] = c0 := byte_at (by rw [HL.out]; rfl) hS0
      have n1 : ((c0.toNat : Int) == 43) = false := by simp; omega
      have n2 : ((c0.toNat : Int) == 45) = false := by simp; omega
      as_aux_lemma =>
        go_wp2
        go_meet
        exact ⟨rfl, rfl, rfl⟩
    · have hb : S[0] = 45 := byte_at (by rw [HL.out]; rfl) hS0
      as_aux_lemma =>
        go_wp2
        go_meet
        exact ⟨rfl, rfl, rfl⟩
  case rest =>
    obtain ⟨rfl, rfl, rfl⟩ := hcut
    obtain ⟨o, ho, hbo, htk⟩ : ∃ o : Nat, (if ng then 1 else 0) = o ∧ S.data.toList.drop o = c0 :: (M' ++ E) ∧ o ≤ 1 := by
      cases ng
      · exact ⟨0, rfl, by rw [HL.out]; rfl, by omega⟩
      · exact ⟨1, rfl, by rw [HL.out]; rfl, by omega⟩
    rw [ho]
    have HO := Lib.hid ho
    have HBO := Lib.hid hbo
    have hs1 : S.size = o + (M'.length + 1 + E.length) := by rw [HS.out, HO.out]
    have HS1 := Lib.hid hs1
    have ho1 : o < S.size := by omega
    clear ho hbo hs1
    have hget : ∀ k, S.data.toList[o + k]? = (c0 :: (M' ++ E))[k]? := fun k => by rw [← HBO.out, List.getElem?_drop]
    have HGET := Lib.hid hget
    clear hget
    go_upto_region 12 with fail
    go_cut [54] (fun s54 wx => wx = wc ∧ s54 = .bool false)
    case first =>
      have hb0 : S[o] = c0 := byte_at (HGET.out 0) ho1
      by_cases h2 : o + 2 < S.size
      · have h2' : (o : Int) + 2 < S.size := by omega
        by_cases h48 : c0.toNat = 48
        · have h48' : ((c0.toNat : Int) == 48) = true := by simp; omega
          have ho2 : o + 1 < S.size := by omega
          have hlt : 1 < (c0 :: (M' ++ E)).length := by have := HS1.out; simp; omega
          have hb1 : S[o + 1] = (c0 :: (M' ++ E))[1] := byte_at (by rw [HGET.out 1]; exact List.getElem?_eq_getElem hlt) ho2
          have htb : tokB ((c0 :: (M' ++ E))[1]) := by
            have hm : (c0 :: (M' ++ E))[1] ∈ M' ++ E := by
              simp only [List.getElem_cons_succ]
              exact List.getElem_mem _
            rcases List.mem_append.1 hm with hm | hm
            · exact HM.out.tokB _ (List.mem_cons_of_mem _ hm)
            · exact HE.out.tokB _ hm
          generalize (c0 :: (M' ++ E))[1] = b1 at *
          have hlx : (low (b1.toNat : Int) == 120) = false := by
            rw [beq_eq_false_iff_ne]
            intro h
            rcases low_x b1 h with h | h <;> (rcases htb with ⟨h1, h2⟩ | h1 | h1 | h1 | h1 | h1 <;> omega)
          clear htb hlt
          as_aux_lemma =>
            go_wp2_with (first | (go_at_call 141; refine (lower_any _ _).mono ?_; rintro e w' ⟨rfl, rfl⟩) | fail)
            go_meet
            exact ⟨rfl, rfl⟩
        · have h48' : ((c0.toNat : Int) == 48) = false := by simp; omega
          clear h48
          as_aux_lemma =>
            go_wp2
            go_meet
            exact ⟨rfl, rfl⟩
      · have h2' : (S.size : Int) ≤ (o : Int) + 2 := by omega
        as_aux_lemma =>
          go_wp2
          go_meet
          exact ⟨rfl, rfl⟩
    case rest =>
      obtain ⟨rfl, rfl⟩ := hcut
      go_wp2
      go_step3
      go_upto_block 1 with fail
      go_cut [2, 5, 7, 9, 13, 14, 15, 16, 17] (fun s2 s5 s7 s9 s13 s14 s15 s16 s17 wx => wx = wc ∧ s9 = .bool false ∧ ∃ (i : Nat) (s : RS), s2 = .int .u64 s.m ∧ s5 = .bool s.tr ∧ s7 = .int .i64 i ∧ s13 = .bool s.dot ∧ s14 = .bool s.dg ∧
        s15 = .int .i64 s.nd ∧ s16 = .int .i64 s.nm ∧ s17 = .int .i64 s.dp ∧ S.data.toList.drop i = E ∧ i + E.length = S.size ∧ (c0 :: M').foldl rStep rs0 = s ∧ s.nm ≤ 19 ∧ s.nd ≤ 100000 ∧ -100000 ≤ s.dp ∧ s.dp ≤ 100000)
      case first =>
        go_wp2_with fail
        go_loopg [2, 5, 7, 9, 13, 14, 15, 16, 17] (M'.length + 1) (fun G s2 s5 s7 s9 s13 s14 s15 s16 s17 wr => s9 = .bool false ∧ ∃ (i : Nat) (R : List UInt8) (s : RS), s2 = .int .u64 s.m ∧ s5 = .bool s.tr ∧ s7 = .int .i64 i ∧ s13 = .bool s.dot ∧ s14 = .bool s.dg ∧
          s15 = .int .i64 s.nd ∧ s16 = .int .i64 s.nm ∧ s17 = .int .i64 s.dp ∧ G = R.length ∧ S.data.toList.drop i = R ++ E ∧ i + R.length + E.length = S.size ∧ okM s.dot R ∧ (c0 :: M').foldl rStep rs0 = R.foldl rStep s ∧ s.nm ≤ 19 ∧ s.nd + R.length ≤ 100000 ∧
          -100000 ≤ s.dp - R.length ∧ s.dp ≤ 100000 ∧ wr = wc)
        case atStart =>
          refine ⟨rfl, o, c0 :: M', rs0, rfl, rfl, rfl, rfl, rfl, rfl, rfl, rfl, rfl, HBO.out, ?_, HM.out, rfl, ?_, ?_, ?_, ?_, rfl⟩
          · have := HS1.out; simp; omega
          · decide
          · have := HS1.out; show 0 + (c0 :: M').length ≤ 100000; simp; omega
          · have := HS1.out; show -100000 ≤ (0 : Int) - ((c0 :: M').length : Nat); simp; omega
          · decide
        case round =>
          obtain ⟨rfl, i, R, ⟨m, nd, nm, dp, dot, dg, tr⟩, rfl, rfl, rfl, rfl, rfl, rfl, rfl, rfl, hG, hdr, hi, hok, hfo, hnm, hnd, hdp0, hdp1, rfl⟩ := hrel
          dsimp only at hok hnm hnd hdp0 hdp1
          have HG2 := Lib.hid hG
          have HDR := Lib.hid hdr
          have HOK := Lib.hid hok
          have HFO := Lib.hid hfo
          clear hG hdr hok hfo
          cases R with
          | nil =>
            have hsE : (c0 :: M').foldl rStep rs0 = ⟨m, nd, nm, dp, dot, dg, tr⟩ := HFO.out
            have HSE := Lib.hid hsE
            clear hsE
            cases hEE : E with
            | nil =>
              subst hEE
              simp only [List.length_nil] at hi
              have hi1' : (S.size : Int) ≤ i := by omega
              as_aux_lemma =>
                go_wp2
                go_meet
                exact ⟨rfl, rfl, i, ⟨m, nd, nm, dp, dot, dg, tr⟩, rfl, rfl, rfl, rfl, rfl, rfl, rfl, rfl, HDR.out, by simp; omega, HSE.out, hnm, by simp at hnd; omega, by simp at hdp0; omega, hdp1⟩
            | cons ec E' =>
              have hec : ec.toNat = 69 ∨ ec.toNat = 101 := by
                have := HE.out
                rw [hEE] at this
                cases this <;> assumption
              rw [hEE] at hi
              simp only [List.length_nil, List.length_cons] at hi hnd hdp0
              have hi1 : i < S.size := by omega
              have hi1' : (i : Int) < S.size := by omega
              have hcb : S[i] = ec := byte_at (by rw [← List.head?_drop, HDR.out, hEE]; rfl) hi1
              have hEL : i + E.length = S.size := by rw [hEE]; simp; omega
              have HEL := Lib.hid hEL
              have HEE := Lib.hid hEE
              have n1 : ((ec.toNat : Int) == 95) = false := by simp; omega
              have n2 : ((ec.toNat : Int) == 46) = false := by simp; omega
              have n3 : (48 : Int) ≤ ec.toNat := by omega
              have n4 : (57 : Int) < ec.toNat := by omega
              clear hEL hEE hec
              as_aux_lemma =>
                go_wp2
                go_meet
                exact ⟨rfl, rfl, i, ⟨m, nd, nm, dp, dot, dg, tr⟩, rfl, rfl, rfl, rfl, rfl, rfl, rfl, rfl, HDR.out, HEL.out, HSE.out, hnm, by show nd ≤ 100000; omega, by show -100000 ≤ dp; omega, hdp1⟩
          | cons c R' =>
            have hi1 : i < S.size := by simp at hi; omega
            have hi1' : (i : Int) < S.size := by omega
            have hcb : S[i] = c := byte_at (by rw [← List.head?_drop, HDR.out]; rfl) hi1
            have hdr' : S.data.toList.drop (i + 1) = R' ++ E := by rw [← List.drop_drop, HDR.out]; rfl
            have HDR' := Lib.hid hdr'
            clear hdr'
            simp only [List.length_cons] at hi hnd hdp0
            rcases HOK.out with ⟨h46, hdot, hok'⟩ | ⟨h48, h57, hok'⟩
            · subst hdot
              have HOK' := Lib.hid hok'
              have hst : rStep ⟨m, nd, nm, dp, false, dg, tr⟩ c = ⟨m, nd, nm, nd, true, dg, tr⟩ := by unfold rStep; rw [if_pos h46]
              have HST := Lib.hid hst
              have h46' : (c.toNat : Int) = 46 := by omega
              clear hok' h46 hst
              as_aux_lemma =>
                go_wp2
                go_roundg R'.length
                case measure => rw [HG2.out]; simp
                case rel => exact ⟨rfl, i + 1, R', ⟨m, nd, nm, nd, true, dg, tr⟩, rfl, rfl, by go_num, rfl, rfl, rfl, rfl, rfl, rfl, HDR'.out, by omega, HOK'.out, by rw [← HST.out]; exact HFO.out, hnm, by show nd + R'.length ≤ 100000; omega, by show -100000 ≤ (nd : Int) - R'.length; omega, by show (nd : Int) ≤ 100000; omega, rfl⟩
            · have HOK' := Lib.hid hok'
              have n1 : ((c.toNat : Int) == 95) = false := by simp; omega
              have n2 : ((c.toNat : Int) == 46) = false := by simp; omega
              have n3 : (48 : Int) ≤ c.toNat := by omega
              have n4 : (c.toNat : Int) ≤ 57 := by omega
              have n5 : IntKind.u8.wrap ((c.toNat : Int) - 48) = (c.toNat : Int) - 48 := by rw [IntKind.wrap_u8]; omega
              have h46 : ¬ c.toNat = 46 := by omega
              have H46 := Lib.hid h46
              clear hok' h46
              by_cases h0 : c.toNat = 48
              · have h0' : ((c.toNat : Int) == 48) = true := by simp; omega
                have h0n : ((c.toNat : Int) != 48) = false := by simp; omega
                by_cases hz : nd = 0
                · have hst : rStep ⟨m, nd, nm, dp, dot, dg, tr⟩ c = ⟨m, nd, nm, dp - 1, dot, true, tr⟩ := by unfold rStep; rw [if_neg H46.out, if_pos ⟨h0, hz⟩]
                  have HST := Lib.hid hst
                  have hz' : ((nd : Int) == 0) = true := by simp; omega
                  clear hst h0
                  as_aux_lemma =>
                    go_wp2
                    go_roundg R'.length
                    case measure => rw [HG2.out]; simp
                    case rel => exact ⟨rfl, i + 1, R', ⟨m, nd, nm, dp - 1, dot, true, tr⟩, rfl, rfl, by go_num, rfl, rfl, by simp [hz], rfl, by go_num, rfl, HDR'.out, by omega, HOK'.out, by rw [← HST.out]; exact HFO.out, hnm, by show nd + R'.length ≤ 100000; omega, by show -100000 ≤ dp - 1 - R'.length; omega, by show dp - 1 ≤ 100000; omega, rfl⟩
                · have hz' : ((nd : Int) == 0) = false := by simp; omega
                  by_cases hm19 : nm < 19
                  · have hm19' : (nm : Int) < 19 := by omega
                    have hst : rStep ⟨m, nd, nm, dp, dot, dg, tr⟩ c = ⟨IntKind.u64.wrap (IntKind.u64.wrap (m * 10) + ((c.toNat : Int) - 48)), nd + 1, nm + 1, dp, dot, true, tr⟩ := by unfold rStep; rw [if_neg H46.out, if_neg (fun h => hz h.2), if_pos hm19]
                    have HST := Lib.hid hst
                    have HZ := Lib.hid hz
                    clear hst h0 hz
                    as_aux_lemma =>
                      go_wp2
                      go_roundg R'.length
                      case measure => rw [HG2.out]; simp
                      case rel => exact ⟨rfl, i + 1, R', ⟨IntKind.u64.wrap (IntKind.u64.wrap (m * 10) + ((c.toNat : Int) - 48)), nd + 1, nm + 1, dp, dot, true, tr⟩, rfl, rfl, by go_num, rfl, rfl, by go_num, by go_num, rfl, rfl, HDR'.out, by omega, HOK'.out, by rw [← HST.out]; exact HFO.out, by show nm + 1 ≤ 19; omega, by show nd + 1 + R'.length ≤ 100000; omega, by show -100000 ≤ dp - R'.length; omega, hdp1, rfl⟩
                  · have hm19' : (19 : Int) ≤ nm := by omega
                    have hst : rStep ⟨m, nd, nm, dp, dot, dg, tr⟩ c = ⟨m, nd + 1, nm, dp, dot, true, tr⟩ := by unfold rStep; rw [if_neg H46.out, if_neg (fun h => hz h.2), if_neg hm19, if_pos h0]
                    have HST := Lib.hid hst
                    have HZ := Lib.hid hz
                    clear hst h0 hz
                    as_aux_lemma =>
                      go_wp2
                      go_roundg R'.length
                      case measure => rw [HG2.out]; simp
                      case rel => exact ⟨rfl, i + 1, R', ⟨m, nd + 1, nm, dp, dot, true, tr⟩, rfl, rfl, by go_num, rfl, rfl, by go_num, rfl, rfl, rfl, HDR'.out, by omega, HOK'.out, by rw [← HST.out]; exact HFO.out, hnm, by show nd + 1 + R'.length ≤ 100000; omega, by show -100000 ≤ dp - R'.length; omega, hdp1, rfl⟩
              · have h0' : ((c.toNat : Int) == 48) = false := by simp; omega
                have h0n : ((c.toNat : Int) != 48) = true := by simp; omega
                have H0 := Lib.hid h0
                clear h0
                by_cases hm19 : nm < 19
                · have hm19' : (nm : Int) < 19 := by omega
                  have hst : rStep ⟨m, nd, nm, dp, dot, dg, tr⟩ c = ⟨IntKind.u64.wrap (IntKind.u64.wrap (m * 10) + ((c.toNat : Int) - 48)), nd + 1, nm + 1, dp, dot, true, tr⟩ := by unfold rStep; rw [if_neg H46.out, if_neg (fun h => H0.out h.1), if_pos hm19]
                  have HST := Lib.hid hst
                  clear hst
                  as_aux_lemma =>
                    go_wp2
                    go_roundg R'.length
                    case measure => rw [HG2.out]; simp
                    case rel => exact ⟨rfl, i + 1, R', ⟨IntKind.u64.wrap (IntKind.u64.wrap (m * 10) + ((c.toNat : Int) - 48)), nd + 1, nm + 1, dp, dot, true, tr⟩, rfl, rfl, by go_num, rfl, rfl, by go_num, by go_num, rfl, rfl, HDR'.out, by omega, HOK'.out, by rw [← HST.out]; exact HFO.out, by show nm + 1 ≤ 19; omega, by show nd + 1 + R'.length ≤ 100000; omega, by show -100000 ≤ dp - R'.length; omega, hdp1, rfl⟩
                · have hm19' : (19 : Int) ≤ nm := by omega
                  have hst : rStep ⟨m, nd, nm, dp, dot, dg, tr⟩ c = ⟨m, nd + 1, nm, dp, dot, true, true⟩ := by unfold rStep; rw [if_neg H46.out, if_neg (fun h => H0.out h.1), if_neg hm19, if_neg H0.out]
                  have HST := Lib.hid hst
                  clear hst
                  as_aux_lemma =>
                    go_wp2
                    go_roundg R'.length
                    case measure => rw [HG2.out]; simp
                    case rel => exact ⟨rfl, i + 1, R', ⟨m, nd + 1, nm, dp, dot, true, true⟩, rfl, rfl, by go_num, rfl, rfl, by go_num, rfl, rfl, rfl, HDR'.out, by omega, HOK'.out, by rw [← HST.out]; exact HFO.out, hnm, by show nd + 1 + R'.length ≤ 100000; omega, by show -100000 ≤ dp - R'.length; omega, hdp1, rfl⟩
      case rest =>
        obtain ⟨rfl, rfl, i, ⟨m, nd, nm, dp, dot, dg, tr⟩, rfl, rfl, rfl, rfl, rfl, rfl, rfl, rfl, hdr, hi, hfo, hnm, hnd, hdp0, hdp1⟩ := hcut
        have hdg : dg = true := by
          have := HG.out
          rw [hfo] at this
          exact this
        subst hdg
        dsimp only at hnm hnd hdp0 hdp1 ⊢
        have HDR := Lib.hid hdr
        have HFO := Lib.hid hfo
        clear hdr hfo
        go_upto_if 142 with fail
        go_cut [17] (fun s17 wx => wx = wc ∧ s17 = .int .i64 (if dot then dp else nd))
        case first =>
          cases dot
          · as_aux_lemma =>
              go_wp2
              go_meet
              exact ⟨rfl, rfl⟩
          · as_aux_lemma =>
              go_wp2
              go_meet
              exact ⟨rfl, rfl⟩
        case rest =>
          obtain ⟨rfl, rfl⟩ := hcut
          have hpp : -100000 ≤ (if dot then dp else (nd : Int)) ∧ (if dot then dp else (nd : Int)) ≤ 100000 := by split <;> omega
          generalize hP : (if dot then dp else (nd : Int)) = pp at *
          have HP := Lib.hid hP
          clear hP
          obtain ⟨hpp0, hpp1⟩ := hpp
          go_upto_region 57 with fail
          go_cut [161] (fun s161 wx => wx = wc ∧ s161 = .bool (!E.isEmpty))
          case first =>
            cases hEE : E with
            | nil =>
              rw [hEE] at hi
              simp only [List.length_nil] at hi
              have hi1' : (S.size : Int) ≤ i := by omega
              have HEE := Lib.hid hEE
              clear hEE
              as_aux_lemma =>
                go_wp2
                go_meet
                exact ⟨rfl, by rw [HEE.out]; rfl⟩
            | cons ec E' =>
              have hec : ec.toNat = 69 ∨ ec.toNat = 101 := by
                have := HE.out
                rw [hEE] at this
                cases this <;> assumption
              rw [hEE] at hi
              simp only [List.length_cons] at hi
              have hi1 : i < S.size := by omega
              have hi1' : (i : Int) < S.size := by omega
              have hcb : S[i] = ec := byte_at (by rw [← List.head?_drop, HDR.out, hEE]; rfl) hi1
              have hlx : (low (ec.toNat : Int) == 101) = true := by
                rw [beq_iff_eq]
                exact (low_e ec).2 hec
              have HEE := Lib.hid hEE
              clear hEE hec
              as_aux_lemma =>
                go_wp2_with (first | (go_at_call 141; refine (lower_any _ _).mono ?_; rintro e w' ⟨rfl, rfl⟩) | fail)
                go_meet
                exact ⟨rfl, by rw [HEE.out]; rfl⟩
          case rest =>
            obtain ⟨rfl, rfl⟩ := hcut
            go_upto_if 161 with fail
            go_cut [7, 9, 17] (fun s7 s9 s17 wx => wx = wc ∧ s9 = .bool false ∧ s7 = .int .i64 S.size ∧ s17 = .int .i64 (pp + x))
            case first =>
              by_cases hEn : E = []
              · subst hEn
                have hx0 : x = 0 := by
                  have := HE.out
                  cases this
                  rfl
                subst hx0
                simp only [List.length_nil] at hi
                have hi2 : i = S.size := by omega
                subst hi2
                as_aux_lemma =>
                  go_wp2
                  go_meet
                  exact ⟨rfl, rfl, rfl, by go_num⟩
              · obtain ⟨ec, sg, D, es, hE3, hx, hD, hd, hsg⟩ : ∃ (ec : UInt8) (sg D : List UInt8) (es : Int), E = ec :: (sg ++ D) ∧ x = D.foldl eStep 0 * es ∧ D ≠ [] ∧ (∀ c ∈ D, isDg c) ∧ ((sg = [] ∧ es = 1) ∨ (sg = [43] ∧ es = 1) ∨ (sg = [45] ∧ es = -1)) := by
                  have := HE.out
                  cases this with
                  | none => exact absurd rfl hEn
                  | plain ec D h hD hd => exact ⟨ec, [], D, 1, rfl, rfl, hD, hd, .inl ⟨rfl, rfl⟩⟩
                  | plus ec D h hD hd => exact ⟨ec, [43], D, 1, rfl, rfl, hD, hd, .inr (.inl ⟨rfl, rfl⟩)⟩
                  | minus ec D h hD hd => exact ⟨ec, [45], D, -1, rfl, rfl, hD, hd, .inr (.inr ⟨rfl, rfl⟩)⟩
                obtain ⟨d0, D', rfl⟩ : ∃ d0 D', D = d0 :: D' := by
                  cases D with
                  | nil => exact absurd rfl hD
                  | cons a b => exact ⟨a, b, rfl⟩
                have hEm : (!E.isEmpty) = true := by rw [hE3]; rfl
                rw [hEm]
                clear hEm
                have hlE : E.length = 1 + (sg.length + (D'.length + 1)) := by rw [hE3]; simp; omega
                have hi1 : (i : Int) + 1 < S.size := by omega
                have hi1n : i + 1 < S.size := by omega
                have hdr1 : S.data.toList.drop (i + 1) = sg ++ d0 :: D' := by rw [← List.drop_drop, HDR.out, hE3]; rfl
                have HX := Lib.hid hx
                have HDD := Lib.hid hd
                have HLE := Lib.hid hlE
                have hdig : isDg d0 := hd d0 (List.mem_cons_self ..)
                unfold isDg at hdig
                clear hE3 hx hD hd hlE hEn
                go_upto_block 4 with fail
                go_cut [7, 19] (fun s7 s19 wx => wx = wc ∧ ∃ (j : Nat), s7 = .int .i64 j ∧ s19 = .int .i64 es ∧ S.data.toList.drop j = d0 :: D' ∧ j + (D'.length + 1) = S.size)
                case first =>
                  rcases hsg with ⟨rfl, rfl⟩ | ⟨rfl, rfl⟩ | ⟨rfl, rfl⟩
                  · have hcb : S[i + 1] = d0 := byte_at (by rw [← List.head?_drop, hdr1]; rfl) hi1n
                    have n1 : ((d0.toNat : Int) == 43) = false := by simp; omega
                    have n2 : ((d0.toNat : Int) == 45) = false := by simp; omega
                    have HDR1 := Lib.hid hdr1
                    clear hdr1
                    as_aux_lemma =>
                      go_wp2
                      go_meet
                      have := HLE.out
                      exact ⟨rfl, i + 1, by go_num, rfl, HDR1.out, by simp at this; omega⟩
                  · have hcb : S[i + 1] = 43 := byte_at (by rw [← List.head?_drop, hdr1]; rfl) hi1n
                    have HDR1 := Lib.hid hdr1
                    clear hdr1
                    as_aux_lemma =>
                      go_wp2
                      go_meet
                      have := HLE.out
                      exact ⟨rfl, i + 2, by go_num, rfl, by rw [show i + 2 = i + 1 + 1 from rfl, ← List.drop_drop, HDR1.out]; rfl, by simp at this; omega⟩
                  · have hcb : S[i + 1] = 45 := byte_at (by rw [← List.head?_drop, hdr1]; rfl) hi1n
                    have HDR1 := Lib.hid hdr1
                    clear hdr1
                    as_aux_lemma =>
                      go_wp2
                      go_meet
                      have := HLE.out
                      exact ⟨rfl, i + 2, by go_num, rfl, by rw [show i + 2 = i + 1 + 1 from rfl, ← List.drop_drop, HDR1.out]; rfl, by simp at this; omega⟩
                case rest =>
                  obtain ⟨rfl, j, rfl, rfl, hdj, hj⟩ := hcut
                  have hj1 : j < S.size := by omega
                  have hj1' : (j : Int) < S.size := by omega
                  have hcb : S[j] = d0 := byte_at (by rw [← List.head?_drop, hdj]; rfl) hj1
                  have n3 : (48 : Int) ≤ d0.toNat := by omega
                  have n4 : (d0.toNat : Int) ≤ 57 := by omega
                  have HDJ := Lib.hid hdj
                  have HJ := Lib.hid hj
                  have hes : es = 1 ∨ es = -1 := by rcases hsg with ⟨-, h⟩ | ⟨-, h⟩ | ⟨-, h⟩ <;> simp [h]
                  have HES := Lib.hid hes
                  clear hdj hj hdr1 hsg hes
                  go_upto_block 5 with fail
                  go_cut [7, 9, 20] (fun s7 s9 s20 wx => wx = wc ∧ s9 = .bool false ∧ s7 = .int .i64 S.size ∧ ∃ e : Int, s20 = .int .i64 e ∧ e = (d0 :: D').foldl eStep 0 ∧ 0 ≤ e ∧ e ≤ 200000)
                  case first =>
                    clear n3 n4 hcb hj1 hj1' hdig
                    go_wp2_with fail
                    go_loopg [7, 9, 20] (D'.length + 1) (fun G s7 s9 s20 wr => s9 = .bool false ∧ ∃ (k : Nat) (R : List UInt8) (e : Int), s7 = .int .i64 k ∧ s20 = .int .i64 e ∧ G = R.length ∧ S.data.toList.drop k = R ∧ k + R.length = S.size ∧
                      (∀ c ∈ R, isDg c) ∧ (d0 :: D').foldl eStep 0 = R.foldl eStep e ∧ 0 ≤ e ∧ e ≤ 200000 ∧ wr = wc)
                    case atStart => exact ⟨rfl, j, d0 :: D', 0, rfl, rfl, rfl, HDJ.out, HJ.out, HDD.out, rfl, by omega, by omega, rfl⟩
                    case round =>
                      obtain ⟨rfl, k, R, e, rfl, rfl, hG2, hdk, hk, hdg, hfe, he0, he1, rfl⟩ := hrel
                      have HG2 := Lib.hid hG2
                      have HDK := Lib.hid hdk
                      have HDG := Lib.hid hdg
                      have HFE := Lib.hid hfe
                      clear hG2 hdk hdg hfe
                      cases R with
                      | nil =>
                        simp only [List.length_nil] at hk
                        have hk2 : k = S.size := by omega
                        subst hk2
                        as_aux_lemma =>
                          go_wp2
                          go_meet
                          exact ⟨rfl, rfl, rfl, e, rfl, HFE.out.symm, he0, he1⟩
                      | cons c R' =>
                        simp only [List.length_cons] at hk
                        have hk1 : k < S.size := by omega
                        have hk1' : (k : Int) < S.size := by omega
                        have hcb : S[k] = c := byte_at (by rw [← List.head?_drop, HDK.out]; rfl) hk1
                        obtain ⟨c1, c2⟩ := HDG.out c (List.mem_cons_self ..)
                        have n1 : ((c.toNat : Int) == 95) = false := by simp; omega
                        have n3 : (48 : Int) ≤ c.toNat := by omega
                        have n4 : (c.toNat : Int) ≤ 57 := by omega
                        by_cases he : e < 10000
                        · have hst : eStep e c = e * 10 + (c.toNat : Int) - 48 := if_pos he
                          have HST := Lib.hid hst
                          clear hst
                          as_aux_lemma =>
                            go_wp2
                            go_roundg R'.length
                            case measure => rw [HG2.out]; simp
                            case rel => exact ⟨rfl, k + 1, R', e * 10 + (c.toNat : Int) - 48, by go_num, by go_num, rfl, by rw [← List.drop_drop, HDK.out]; rfl, by omega, fun c hc => HDG.out c (List.mem_cons_of_mem _ hc), by rw [← HST.out]; exact HFE.out, by omega, by omega, rfl⟩
                        · have he' : (10000 : Int) ≤ e := by omega
                          have hst : eStep e c = e := if_neg he
                          have HST := Lib.hid hst
                          clear hst he
                          as_aux_lemma =>
                            go_wp2
                            go_roundg R'.length
                            case measure => rw [HG2.out]; simp
                            case rel => exact ⟨rfl, k + 1, R', e, by go_num, by go_num, rfl, by rw [← List.drop_drop, HDK.out]; rfl, by omega, fun c hc => HDG.out c (List.mem_cons_of_mem _ hc), by conv => { rhs; rw [← HST.out] }; exact HFE.out, by omega, by omega, rfl⟩
                  case rest =>
                    obtain ⟨rfl, rfl, rfl, e, rfl, he, he0, he1⟩ := hcut
                    have HEV := Lib.hid he
                    clear he
                    rcases HES.out with rfl | rfl
                    · as_aux_lemma =>
                        go_wp2
                        go_meet
                        refine ⟨rfl, rfl, rfl, ?_⟩
                        rw [HX.out, ← HEV.out]
                        go_num
                    · as_aux_lemma =>
                        go_wp2
                        go_meet
                        refine ⟨rfl, rfl, rfl, ?_⟩
                        rw [HX.out, ← HEV.out]
                        go_num
            case rest =>
              obtain ⟨rfl, rfl, rfl, rfl⟩ := hcut
              have hx0 := HE.out.bound
              obtain ⟨hx0, hx1⟩ := hx0
              by_cases hm : m = 0
              · subst hm
                as_aux_lemma =>
                  go_wp2
                  rw [Exit.noGoto_ret]
                  refine bodyPost_ret (results_tmp7 rfl _ _ _) rfl ?_
                  rw [HFO.out]
                  exact ⟨rfl, 0, rfl⟩
              · have hm' : (m != 0) = true := by simpa using hm
                have HM0 := Lib.hid hm
                clear hm
                as_aux_lemma =>
                  go_wp2
                  rw [Exit.noGoto_ret]
                  refine bodyPost_ret (results_tmp7 rfl _ _ _) rfl ?_
                  rw [HFO.out]
                  dsimp only
                  rw [if_neg HM0.out, HP.out]
                  exact ⟨rfl, 0, rfl⟩
end Go.Proofs.YthfjakbpeclfcaaGreatDoor
