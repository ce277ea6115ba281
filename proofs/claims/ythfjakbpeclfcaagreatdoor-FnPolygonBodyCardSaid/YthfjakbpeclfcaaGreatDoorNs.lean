/-
  The scanner's next, slow road: the buffer is read out.
-/
import Derived.Test.YthfjakbpeclfcaaGreatDoorGNx
import Derived.BigRegion
import Derived.LaidEql
namespace Go.Proofs.YthfjakbpeclfcaaGreatDoor
open Go.RowKit Go

/-- What the scanner reads of the package's variables. -/
structure ScW (B : Nat) (w : World) : Prop where
  hB : 19 ≤ B
  first : ∀ x, x < 128 → w.cell? ⟨5, x, none⟩ = some (.int .u8 240)
  eof : ∃ a, w.cell? ⟨2, 0, none⟩ = some (.iface 215 (.pointer (some a)))
theorem ScW.below {B : Nat} {w w' : World} (h : ScW B w) (hb : Below B w w') : ScW B w' := by
  have hB := h.hB
  obtain ⟨a, ha⟩ := h.eof
  exact ⟨hB, fun x hx => (hb.cell (p := ⟨5, x, none⟩) (show 5 < B by omega)).trans (h.first x hx), a, (hb.cell (p := ⟨2, 0, none⟩) (show 2 < B by omega)).trans ha⟩

theorem fr_nil (w : World) (d : Option Addr) (c : Nat) : Calls Tryz.prog 100 #[.slice d 0 c] w fun e w' => e = .returned (.bool false) ∧ w = w' := by
  go_enter Tryz.func100, Tryz.ntmps100
  go_wp2
  go_ret
  exact ⟨rfl, rfl⟩
theorem fr_asc (w : World) (P n c : Nat) (x : Nat) (hx : x < 128) (h1 : w.cell? ⟨P, 1, none⟩ = some (.int .u8 x)) (hn : 1 ≤ n) (hn2 : n ≤ 1024) (hF : ∀ x, x < 128 → w.cell? ⟨5, x, none⟩ = some (.int .u8 240)) :
    Calls Tryz.prog 100 #[.slice (some ⟨P, 1, none⟩) n c] w fun e w' => e = .returned (.bool true) ∧ w = w' := by
  have hf := hF x hx
  have hx' : (x : Int) < 256 := by omega
  have hn' : ((n : Int) == 0) = false := by simp; omega
  have hb : bits .and .u8 240 7 = 0 := by decide
  clear hF
  go_enter Tryz.func100, Tryz.ntmps100
  go_wp2
  go_ret
  exact ⟨rfl, rfl⟩

theorem Core.of_heap {B P RD : Nat} {f : Flds} {w w' : World} (h : Core B P RD f w) (e : w'.heap = w.heap) : Core B P RD f w' := by
  refine ⟨?_, by rw [e]; exact h.hs, h.hr, h.ne, by rw [e]; exact h.r⟩
  exact h.b.carry fun k _ => by rw [e]

theorem eof_neq (a : Addr) (w : World) : (binOp .neq 43 (.iface 215 (.pointer (some a))) (.iface 215 (.pointer (some a)))).run Tryz.prog w = .ok (.bool false) w := by
  have h1 : (Tryz.prog.info? 215).map (·.comparable) = some true := by kernel_rfl
  have h2 : (Tryz.prog.info? 217).isSome = true := by kernel_rfl
  obtain ⟨j, hj⟩ := Option.isSome_iff_exists.1 h2
  cases hi : Tryz.prog.info? 215 with
  | none => rw [hi] at h1; cases h1
  | some i =>
    rw [hi] at h1
    have hc : i.comparable = true := by simpa using h1
    simp only [binOp]
    simp [Op.equal, Op.maxDepth, run_equalIn_iface_ptr_same w 9998 a Tryz.underlying43 Tryz.underlying215 hi hc hj]
theorem mRead (a : Option Addr) (w : World) : Sem.run Tryz.prog (method 386 115 (.pointer a) "Read") w = .ok (191, .pointer a) w := by kernel_rfl

/-- The token's beginning: none is taken, or its text from t on lies in the head's buffer and in the source buffer. -/
def Tok (f : Flds) (o p : Nat) : Option Nat → Prop
  | none => f.tp = -1
  | some t => ∃ tp : Nat, f.tp = tp ∧ tp ≤ p ∧ o + tp = t + f.tb.length ∧ f.tb = (f.T.data.toList.drop t).take f.tb.length
structure Keep (f f' : Flds) : Prop where
  T : f'.T = f.T
  te : f'.te = f.te
  ch : f'.ch = f.ch
  err : f'.err = f.err
  ec : f'.ec = f.ec
  pk : f'.pk = f.pk
theorem Keep.refl (f : Flds) : Keep f f := ⟨rfl, rfl, rfl, rfl, rfl, rfl⟩
theorem Keep.trans {f g k : Flds} (h : Keep f g) (i : Keep g k) : Keep f k := ⟨i.T.trans h.T, i.te.trans h.te, i.ch.trans h.ch, i.err.trans h.err, i.ec.trans h.ec, i.pk.trans h.pk⟩

theorem tx_cell (T : ByteArray) (a n j : Nat) (v : Value) (h : (Lib.byteCells ((T.data.toList.drop a).take n))[j]? = some v) : j < n ∧ v = .int .u8 (tx T (a + j)) := by
  unfold Lib.byteCells at h
  rw [List.getElem?_map, List.getElem?_take] at h
  by_cases hj : j < n
  · rw [if_pos hj, List.getElem?_drop] at h
    refine ⟨hj, ?_⟩
    unfold tx
    rw [List.getD_eq_getElem?_getD]
    cases hv : T.data.toList[a + j]? with
    | none => rw [hv] at h; cases h
    | some c =>
      rw [hv] at h
      simp at h
      rw [← h]
      rfl
  · rw [if_neg hj] at h
    cases h

set_option maxHeartbeats 4000000 in
set_option maxRecDepth 100000 in
theorem nx_slow (B P RD : Nat) (f : Flds) (w : World) (o e : Nat) (tk : Option Nat) (h : Core B P RD f w) (hI : Inv f o e e) (hk : Tok f o e tk) (hA : Asc f.T) (hsz : f.T.size ≤ 100000) (hW : ScW B w) :
    Calls Tryz.prog 80 #[.pointer (some ⟨P, 0, none⟩)] w fun en w' => ∃ f' e' p', en = .returned (.int .i32 (if o + e < f.T.size then tx f.T (o + e) else -1)) ∧
      Core B P RD f' w' ∧ Inv f' (o + e) e' p' ∧ Tok f' (o + e) 0 tk ∧ Keep f f' ∧ p' = (if o + e < f.T.size then 1 else 0) ∧ f'.lcl = p' ∧ Fr B P RD w w' := by
  have he := hI.he
  have hT := hI.hT
  have c1 := h.c_pos
  rw [hI.pos] at c1
  have c2 := h.c_fin
  rw [hI.fin] at c2
  have c3 := h.c_tp
  have cb := h.cbuf e (by omega)
  rw [hI.sen] at cb
  have he1 : (e : Int) < 1025 := by omega
  have cb2 := cb
  rw [Nat.add_comm] at cb2
  have hP := h.hP
  have H := Lib.hid h
  have HI := Lib.hid hI
  have HK := Lib.hid hk
  have HW := Lib.hid hW
  clear h hI hk hW
  go_enter Tryz.func80, Tryz.ntmps80
  go_wp2
  go_quiet (fail)
  go_wp2
  have h := H.out.drewN nq
  have hb : Fr B P RD w (w.drewN nq) := Fr.refl.drewN nq
  generalize w.drewN nq = w1 at *
  go_loopg [7] 1 (fun G s7 wr => ∃ (g : Flds) (p e2 : Nat), Core B P RD g wr ∧ Fr B P RD w wr ∧ Keep f g ∧ ((G = 1 ∧ g = f ∧ p = e ∧ e2 = e) ∨ (G = 0 ∧ o + e < f.T.size ∧ p = 0 ∧ 1 ≤ e2 ∧ Inv g (o + e) e2 0 ∧ Tok g (o + e) 0 tk)))
  case atStart => exact ⟨f, e, e, h, hb, Keep.refl f, .inl ⟨rfl, rfl, rfl, rfl⟩⟩
  case round =>
    obtain ⟨g, p, e2, hc, hfr, hkeep, hcase⟩ := hrel
    rcases hcase with ⟨rfl, hg, hp, he2⟩ | ⟨rfl, hlt, rfl, he2, hI2, hT2⟩
    · subst hp he2
      clear hkeep h c1 c2 c3 cb cb2 he1
      have h : Core B P RD f wr := hg ▸ hc
      clear hc
      obtain ⟨c1, c2, c3, c4, c5, c6, c7, c8, c9, c10, fz⟩ := h.facts
      have HI0 := HI.out
      rw [HI0.pos] at c1
      rw [HI0.fin] at c2
      clear HI0
      have hw4 : IntKind.i64.wrap ((e2 : Int) + 4) = (e2 : Int) + 4 := by rw [IntKind.wrap_i64]; omega
      have he0 : decide ((e2 : Int) < IntKind.i64.wrap ((e2 : Int) + 4)) = true := by rw [hw4]; exact decide_eq_true (by omega)
      have he1 : (e2 : Int) ≤ 1025 := by omega
      have hne : ¬ (1025 : Nat) = e2 := by omega
      clear hw4
      have HC := Lib.hid h
      have HFR := Lib.hid hfr
      clear h hfr
      go_wp2
      go_quiet ((go_at_call 100; exact Calls.quiet_of_same ((fr_nil _ _ _).mono fun _ _ ⟨a, b⟩ => ⟨a, b.symm⟩)))
      have h := HC.out.drewN nq
      have hb := HFR.out.drewN nq
      generalize wr.drewN nq = w2 at *
      obtain ⟨c1, c2, c3, c4, c5, c6, c7, c8, c9, c10, fz⟩ := h.facts
      rw [HI.out.pos] at c1
      rw [HI.out.fin] at c2
      have HC2 := Lib.hid h
      have HF2 := Lib.hid hb
      clear h hb
      go_upto_if 50 with fail
      go_cut [7] (fun s7 wx => ∃ g : Flds, Core B P RD g wx ∧ Fr B P RD w wx ∧ Keep f g ∧ g.pos = e2 ∧ g.fin = e2 ∧ g.off = o ∧ g.ri = ((o + e2 : Nat) : Int) ∧ g.buf = f.buf ∧ g.lcl = f.lcl ∧
        (match tk with | none => g.tp = -1 | some t => g.tp = 0 ∧ o + e2 = t + g.tb.length ∧ g.tb = (f.T.data.toList.drop t).take g.tb.length))
      case first =>
        cases tk with
        | none =>
          have htp : f.tp = -1 := HK.out
          rw [htp] at c8
          go_wp2
          go_meet
          exact ⟨f, HC2.out, HF2.out, Keep.refl f, HI.out.pos, HI.out.fin, HI.out.off, HI.out.ri, rfl, rfl, htp⟩
        | some t =>
          obtain ⟨tp, htp, htp2, hto, htb⟩ := HK.out
          rw [htp] at c8
          have htp3 : (tp : Int) ≤ e2 := by omega
          have hne2 : ¬ (1025 : Nat) = tp := by omega
          have htp0 : (0 : Int) ≤ tp := by omega
          go_wp2
          go_still_tail 15, (by kernel_rfl)
          change wpList _ _ _ _ _ w2.drew
          have h3 := HC2.out.drewN 1
          have hf3 := HF2.out.drew
          change Core B P RD f w2.drew at h3
          generalize w2.drew = w3 at *
          have hbw := buf_write 101 (cellOf RD f) B P 1033 (Lib.byteCells f.tb) (Lib.byteCells ((f.T.data.toList.drop (o + tp)).take (e2 - tp))) (1 + tp) (e2 - tp) (1025 - tp) w3 h3.b h3.hs (Lib.byteCells_one _)
            (by have := HI.out.hT; rw [Lib.byteCells_length, List.length_take, List.length_drop, tlen]; omega) (by omega)
            (fun j v hj => by
              obtain ⟨j1, j2⟩ := tx_cell _ _ _ _ _ hj
              rw [j2, show 1 + tp + j = (tp + j) + 1 from by omega]
              have := h3.cbuf (tp + j) (by omega)
              rw [h3.at _ (.inl (by omega))] at this
              rw [this, HI.out.buf (tp + j) (by omega), Nat.add_assoc]) (Lib.byteCells_one _) (by rw [Lib.byteCells_length]; have := HI.out.hT; omega)
          have HB3 := Lib.hid h3
          have HF3 := Lib.hid hf3
          clear h3 hf3
          go_wp2_with (go_at_call 91; refine hbw.mono ?_)
          rintro e w4 ⟨rfl, hib, hbel, hok⟩
          have hC4 : Core B P RD { f with tb := f.tb ++ (f.T.data.toList.drop (o + tp)).take (e2 - tp) } w4 := by
            refine ⟨?_, Nat.le_trans HB3.out.hs hbel.size, HB3.out.hr, HB3.out.ne, hok RD _ HB3.out.r (fun e => HB3.out.ne (Option.some.inj e)) (fun cs fz e => by cases e)⟩
            have e1 : Lib.byteCells (f.tb ++ (f.T.data.toList.drop (o + tp)).take (e2 - tp)) = Lib.byteCells f.tb ++ Lib.byteCells ((f.T.data.toList.drop (o + tp)).take (e2 - tp)) := by unfold Lib.byteCells; rw [List.map_append]
            rw [e1]
            exact hib
          have hF4 := HF3.out.buf hbel hok
          have q1 := hC4.c_tp
          have q2 := hC4.frz 1036
          have HC4 := Lib.hid hC4
          have HF4 := Lib.hid hF4
          clear hC4 hF4 hib hbel hok hbw
          go_wp2
          go_meet
          have hlen : ((f.T.data.toList.drop (o + tp)).take (e2 - tp)).length = e2 - tp := by have := HI.out.hT; rw [List.length_take, List.length_drop, tlen]; omega
          refine ⟨_, HC4.out.s_tp 0, HF4.out.sP hP _ _, ⟨rfl, rfl, rfl, rfl, rfl, rfl⟩, HI.out.pos, HI.out.fin, HI.out.off, HI.out.ri, rfl, rfl, rfl, ?_, ?_⟩
          · show o + e2 = t + (f.tb ++ (f.T.data.toList.drop (o + tp)).take (e2 - tp)).length
            rw [List.length_append, hlen]
            omega
          · show f.tb ++ (f.T.data.toList.drop (o + tp)).take (e2 - tp) = (f.T.data.toList.drop t).take (f.tb ++ (f.T.data.toList.drop (o + tp)).take (e2 - tp)).length
            rw [List.length_append, hlen, List.take_add, ← htb, List.drop_drop, show t + f.tb.length = o + tp from hto.symm]
      case rest =>
        obtain ⟨g, hc, hfr, hkeep, h1, h2, h3, h4, h5, h6, h7⟩ := hcut
        obtain ⟨c1, c2, c3, c4, c5, c6, c7, c8, c9, c10, fz⟩ := hc.facts
        rw [h1] at c1
        rw [h2] at c2
        rw [h3] at c3
        have hC1 := Lib.hid hc
        have hF1 := Lib.hid hfr
        have hH7 := Lib.hid h7
        have hoe : (o : Int) + e2 ≤ 100000 := by have := HI.out.hT; omega
        have hoe2 : (o : Int) + e2 ≤ f.T.size := by have := HI.out.hT; omega
        have hce : ∀ W, (Builtin.copy_ #[85, 85] 3 #[.slice (some ⟨P, 1, none⟩) 1025 1025, .slice (some ⟨P, 1 + e2, none⟩) 0 (1025 - e2)]).run Tryz.prog W = .ok (goInt 0) W :=
          fun W => run_copy_none W 85 85 3 5 _ _ _ _ _ _ Tryz.underlying85 (by kernel_rfl) (by simp)
        clear hc hfr h7
        go_wp2
        go_still_tail 16, (by kernel_rfl)
        change wpList _ _ _ _ _ wc.drew
        have h8 := hC1.out.drewN 1
        have hf8 := hF1.out.drew
        change Core B P RD g wc.drew at h8
        generalize wc.drew = w3 at *
        obtain ⟨c1, c2, c3, c4, c5, c6, c7, c8, c9, c10, fz⟩ := h8.facts
        rw [h1] at c1
        rw [h2] at c2
        rw [h3] at c3
        have hC2 := Lib.hid h8
        have hF2 := Lib.hid hf8
        clear h8 hf8
        go_wp2
        go_still_tail 11, (by kernel_rfl)
        change wpList _ _ _ _ _ w3.drew
        have h8 := hC2.out.drewN 1
        have hf8 := hF2.out.drew
        change Core B P RD g w3.drew at h8
        generalize w3.drew = w4 at *
        have q1 := h8.c_off
        have q2 := h8.frz
        have h9 := h8.s_off ((o : Int) + e2)
        have hf9 := hf8.sP hP 1028 (.int .i64 ((o : Int) + e2))
        go_wp2
        generalize w4.setCell ⟨P, 1028, none⟩ (.int .i64 ((o : Int) + e2)) = w5 at *
        have r1 : w5.cell? ⟨P, 1026, none⟩ = some (.int .i64 e2) := h1 ▸ h9.c_pos
        have r2 : w5.cell? ⟨P, 1027, none⟩ = some (.int .i64 e2) := h2 ▸ h9.c_fin
        have hC3 := Lib.hid h9
        have hF3 := Lib.hid hf9
        clear h8 hf8 h9 hf9 q1 q2
        go_quiet (fail)
        have h8 := hC3.out.drewN nq
        have hf8 := hF3.out.drewN nq
        generalize w5.drewN nq = w6 at *
        have r0 := h8.c_src
        have hC4 := Lib.hid h8
        have hF4 := Lib.hid hf8
        clear h8 hf8
        have hri : g.ri = ((o + e2 : Nat) : Int) := h4
        by_cases hlt : o + e2 < f.T.size
        · generalize hn : min (f.T.size - (o + e2)) 1024 = n
          have hrd : ∀ W, Core B P RD { g with off := (o : Int) + e2 } W → Calls Tryz.prog 191 #[.pointer (some ⟨RD, 0, none⟩), .slice (some ⟨P, 1, none⟩) 1024 1025] W fun en w' => en = .returned (.tuple #[.int .i64 n, .nilIface]) ∧
              Core B P RD { g with off := (o : Int) + e2, buf := fun j => if j < n then tx f.T (o + e2 + j) else g.buf j, ri := ((o + e2 + n : Nat) : Int), pr := -1 } w' ∧ Fr B P RD W w' := by
            intro W hc
            have := rd_some B P RD { g with off := (o : Int) + e2 } W hc (o + e2) n hri (by show o + e2 < g.T.size; rw [hkeep.T]; exact hlt) (by show g.T.size ≤ 100000; rw [hkeep.T]; exact hsz) (by show n = min (g.T.size - (o + e2)) 1024; rw [hkeep.T]; exact hn.symm)
            dsimp only at this
            rw [show (fun j => if j < n then tx g.T (o + e2 + j) else g.buf j) = (fun j => if j < n then tx f.T (o + e2 + j) else g.buf j) from by rw [hkeep.T]] at this
            exact this
          have mR := mRead (some ⟨RD, 0, none⟩)
          have hn1 : 1 ≤ n ∧ n ≤ 1024 ∧ o + e2 + n ≤ f.T.size := by omega
          have HN := Lib.hid hn
          have HN1 := Lib.hid hn1
          clear hn hn1
          go_upto_region 10 with fail
          go_cut [6, 7] (fun s6 s7 wx => s6 = .int .i64 n ∧ s7 = .nilIface ∧ Core B P RD { g with off := (o : Int) + e2, buf := fun j => if j < n then tx f.T (o + e2 + j) else g.buf j, ri := ((o + e2 + n : Nat) : Int), pr := -1 } wx ∧ Fr B P RD w wx)
          case first =>
            have hq := hrd _ (hC4.out.of_heap (w' := w6.drew) rfl)
            go_region_with (go_at_call 191; refine hq.mono ?_; rintro e W ⟨rfl, hk, hf⟩)
            go_wp2
            go_meet
            exact ⟨rfl, rfl, hk, hF4.out.drew.trans hf⟩
          case rest =>
            obtain ⟨rfl, rfl, hk, hf⟩ := hcut
            have hk2 := (hk.s_pos 0).s_fin n
            have hf2 := (hf.sP hP 1026 (.int .i64 0)).sP hP 1027 (.int .i64 n)
            have zf := hk.frz
            have d1 : wc.cell? ⟨P, 1026, none⟩ = some (.int .i64 g.pos) := hk.c_pos
            have d2 : wc.cell? ⟨P, 1027, none⟩ = some (.int .i64 g.fin) := hk.c_fin
            have HK2 := Lib.hid hk2
            have HF2 := Lib.hid hf2
            obtain ⟨hn1, hn2, hn3⟩ := HN1.out
            have hn4 : (n : Int) < 1025 := by omega
            clear hk hf hk2 hf2 hrd
            go_wp2
            generalize (wc.setCell ⟨P, 1026, none⟩ (.int .i64 0)).setCell ⟨P, 1027, none⟩ (.int .i64 n) = w8 at *
            have q1 : w8.cell? ⟨P, 1027, none⟩ = some (.int .i64 n) := HK2.out.c_fin
            go_still_tail 8, (by kernel_rfl)
            change wpList _ _ _ _ _ w8.drew
            have h8 := HK2.out.drewN 1
            have hf8 := HF2.out.drew
            change Core B P RD _ w8.drew at h8
            generalize w8.drew = w9 at *
            have q2 := h8.cbuf n (by omega)
            rw [Nat.add_comm] at q2
            have q3 := h8.frz (1 + n)
            have h9 := h8.s_buf n (by omega) 128
            rw [Nat.add_comm n 1] at h9
            have hf9 := hf8.sP hP (1 + n) (.int .u8 128)
            have H9 := Lib.hid h9
            have HF9 := Lib.hid hf9
            clear h8 hf8 h9 hf9
            go_wp2
            go_roundg 0
            case measure => decide
            case rel =>
              refine ⟨_, 0, n, H9.out, HF9.out, ⟨hkeep.T, hkeep.te, hkeep.ch, hkeep.err, hkeep.ec, hkeep.pk⟩, .inr ⟨rfl, hlt, rfl, hn1, ⟨by show (o : Int) + e2 = _; omega, rfl, rfl, Nat.zero_le _, hn2, by show o + e2 + n ≤ g.T.size; rw [hkeep.T]; exact hn3, rfl, ?_, ?_, by show g.lcl = 0 ∨ g.lcl = 1; rw [h6]; exact HI.out.lcl⟩, ?_⟩⟩
              · intro j hj
                show (if j = n then (128 : Int) else if j < n then tx f.T (o + e2 + j) else g.buf j) = tx g.T (o + e2 + j)
                rw [if_neg (by omega), if_pos hj, hkeep.T]
              · show (if n = n then (128 : Int) else _) = 128
                rw [if_pos rfl]
              · cases tk with
                | none => exact hH7.out
                | some t =>
                  obtain ⟨t1, t2, t3⟩ := hH7.out
                  refine ⟨0, t1, Nat.le_refl _, t2, ?_⟩
                  show g.tb = (g.T.data.toList.drop t).take g.tb.length
                  rw [hkeep.T]
                  exact t3
        · obtain ⟨ea, hea⟩ := HW.out.eof
          have hend : o + e2 = f.T.size := by omega
          have hrd : ∀ W, Core B P RD { g with off := (o : Int) + e2 } W → W.cell? ⟨2, 0, none⟩ = some (.iface 215 (.pointer (some ea))) → Calls Tryz.prog 191 #[.pointer (some ⟨RD, 0, none⟩), .slice (some ⟨P, 1, none⟩) 1024 1025] W fun en w' => en = .returned (.tuple #[.int .i64 0, .iface 215 (.pointer (some ea))]) ∧
              ∃ n m, w' = (W.drewN n).drewN m := by
            intro W hc hv
            exact rd_end B P RD { g with off := (o : Int) + e2 } W hc (by show g.ri = (g.T.size : Int); rw [hri, hkeep.T, hend]) _ hv _ _
          have mR := mRead (some ⟨RD, 0, none⟩)
          have hB2 : 2 < B := by have := HW.out.hB; omega
          have hq := hrd _ (hC4.out.of_heap (w' := w6.drew) rfl) ((hF4.out.drew.bel.cell (p := ⟨2, 0, none⟩) hB2).trans hea)
          clear hrd hend
          go_upto_region 10 with fail
          go_cut [6, 7] (fun s6 s7 wx => s6 = .int .i64 0 ∧ s7 = .iface 215 (.pointer (some ea)) ∧ Core B P RD { g with off := (o : Int) + e2 } wx ∧ Fr B P RD w wx)
          case first =>
            go_region_with (go_at_call 191; refine hq.mono ?_; rintro e W ⟨rfl, n, m, rfl⟩)
            go_wp2
            go_meet
            exact ⟨rfl, rfl, hC4.out.of_heap rfl, hF4.out.drewN _⟩
          case rest =>
            obtain ⟨rfl, rfl, hk, hf⟩ := hcut
            have hk2 := (hk.s_pos 0).s_fin 0
            have hf2 := (hf.sP hP 1026 (.int .i64 0)).sP hP 1027 (.int .i64 0)
            have zf := hk.frz
            have d1 : wc.cell? ⟨P, 1026, none⟩ = some (.int .i64 g.pos) := hk.c_pos
            have d2 : wc.cell? ⟨P, 1027, none⟩ = some (.int .i64 g.fin) := hk.c_fin
            have HK2 := Lib.hid hk2
            have HF2 := Lib.hid hf2
            clear hk hf hk2 hf2 hq
            go_wp2
            generalize (wc.setCell ⟨P, 1026, none⟩ (.int .i64 0)).setCell ⟨P, 1027, none⟩ (.int .i64 0) = w8 at *
            have q1 : w8.cell? ⟨P, 1027, none⟩ = some (.int .i64 0) := HK2.out.c_fin
            go_still_tail 8, (by kernel_rfl)
            change wpList _ _ _ _ _ w8.drew
            have h8 := HK2.out.drewN 1
            have hf8 := HF2.out.drew
            change Core B P RD _ w8.drew at h8
            generalize w8.drew = w9 at *
            have q2 : w9.cell? ⟨P, 1, none⟩ = _ := h8.cbuf 0 (by decide)
            have q3 := h8.frz
            have h9 := h8.s_buf 0 (by decide) 128
            have hf9 := hf8.sP hP 1 (.int .u8 128)
            have q4 : (w9.setCell ⟨P, 1, none⟩ (.int .u8 128)).cell? ⟨P, 1032, none⟩ = some (.int .i64 g.lcl) := h9.c_lcl
            have q5 : (w9.setCell ⟨P, 1, none⟩ (.int .u8 128)).cell? ⟨P, 1030, none⟩ = some (.int .i64 g.col) := h9.c_col
            have q6 : (w9.setCell ⟨P, 1, none⟩ (.int .u8 128)).cell? ⟨P, 1027, none⟩ = some (.int .i64 0) := h9.c_fin
            have q7 := h9.frz
            have q8 : (w9.setCell ⟨P, 1, none⟩ (.int .u8 128)).cell? ⟨2, 0, none⟩ = some (.iface 215 (.pointer (some ea))) := (hf9.bel.cell (p := ⟨2, 0, none⟩) hB2).trans hea
            have H9 := Lib.hid h9
            have HF9 := Lib.hid hf9
            clear h8 hf8 h9 hf9
            have hen := eof_neq ea
            have hifs : (if o + e2 < f.T.size then tx f.T (o + e2) else -1) = -1 := if_neg hlt
            have hif2 : (if o + e2 < f.T.size then 1 else 0) = 0 := if_neg hlt
            have HIF := Lib.hid hifs
            have HIF2 := Lib.hid hif2
            clear hifs hif2
            have htok : ∀ k : Flds, k.tp = g.tp → k.tb = g.tb → k.T = g.T → Tok k (o + e2) 0 tk := by
              intro k k1 k2 k3
              cases tk with
              | none => exact k1.trans hH7.out
              | some t =>
                obtain ⟨t1, t2, t3⟩ := hH7.out
                refine ⟨0, k1.trans t1, Nat.le_refl _, by rw [k2]; exact t2, ?_⟩
                rw [k2, k3, hkeep.T]
                exact t3
            have hinv : ∀ k : Flds, k.off = (o : Int) + e2 → k.fin = 0 → k.pos = 0 → k.T = g.T → k.ri = g.ri → k.buf = updI g.buf 0 128 → k.lcl = 0 → Inv k (o + e2) 0 0 := by
              intro k k1 k2 k3 k4 k5 k6 k7
              exact ⟨by rw [k1]; omega, k2, k3, Nat.le_refl _, by decide, by rw [k4, hkeep.T]; omega, by rw [k5, hri]; rfl, fun j hj => absurd hj (Nat.not_lt_zero j), by rw [k6]; rfl, .inl k7⟩
            have HTOK := Lib.hid htok
            have HINV := Lib.hid hinv
            clear htok hinv
            by_cases hl : g.lcl = 0
            · rw [hl] at q4
              go_wp2
              go_ret
              exact ⟨by first | rfl | (rw [HIF.out]; rfl), _, H9.out.s_lcl 0, 0, 0, by apply HINV.out <;> rfl, by apply HTOK.out <;> rfl, ⟨hkeep.T, hkeep.te, hkeep.ch, hkeep.err, hkeep.ec, hkeep.pk⟩, rfl, rfl, HF9.out.sP hP _ _⟩
            · have hl1 : g.lcl = 1 := by
                have := HI.out.lcl
                rw [← h6] at this
                exact this.resolve_left hl
              rw [hl1] at q4
              go_wp2
              go_ret
              exact ⟨by first | rfl | (rw [HIF.out]; rfl), _, (H9.out.s_col _).s_lcl 0, 0, 0, by apply HINV.out <;> rfl, by apply HTOK.out <;> rfl, ⟨hkeep.T, hkeep.te, hkeep.ch, hkeep.err, hkeep.ec, hkeep.pk⟩, rfl, rfl, (HF9.out.sP hP _ _).sP hP _ _⟩
    · clear h c1 c2 c3 cb cb2 he1 he hT H HI HK hb
      have x01 := hA (o + e) hlt
      have hgT := hkeep.T
      have c1 := hc.c_pos
      rw [hI2.pos] at c1
      have c2 := hc.c_fin
      rw [hI2.fin] at c2
      have cb : wr.cell? ⟨P, 1, none⟩ = some (.int .u8 (tx f.T (o + e))) := by
        have := hc.cbuf 0 (by decide)
        rw [hI2.buf 0 (by omega), hgT] at this
        exact this
      obtain ⟨x0, x1⟩ := x01
      have hifs : (if o + e < f.T.size then tx f.T (o + e) else -1) = tx f.T (o + e) := if_pos hlt
      have hif2 : (if o + e < f.T.size then 1 else 0) = 1 := if_pos hlt
      obtain ⟨xn, hxn⟩ : ∃ xn : Nat, tx f.T (o + e) = xn := ⟨_, rfl⟩
      rw [hxn] at hifs cb x0 x1
      have hF := (HW.out.below hfr.bel).first
      have hfa : ∀ n c, Calls Tryz.prog 100 #[.slice (some ⟨P, 1, none⟩) e2 c] (wr.drewN n) fun e w' => e = .returned (.bool true) ∧ w' = wr.drewN n :=
        fun n c => (fr_asc (wr.drewN n) P e2 c xn (by omega) cb he2 hI2.he hF).mono fun _ _ ⟨a, b⟩ => ⟨a, b.symm⟩
      have he4 : (e2 : Int) ≤ 1024 := by have := hI2.he; omega
      have he5 : (e2 : Int) ≤ 1025 := by omega
      have he0 : (0 : Int) ≤ e2 := by omega
      have HIF := Lib.hid hifs
      have HIF2 := Lib.hid hif2
      have HC := Lib.hid hc
      have HFR := Lib.hid hfr
      have HI2 := Lib.hid hI2
      have HT2 := Lib.hid hT2
      have HXN := Lib.hid hxn
      clear hifs hif2 hc hfr hI2 hT2 hF hxn
      have hne2 : ¬ (1025 : Nat) = e2 := by omega
      have hw4 : IntKind.i64.wrap 4 = 4 := by decide
      by_cases h4 : e2 < 4
      · have hd4 : (e2 : Int) < 4 := by omega
        clear h4
        go_wp2
        go_quiet ((go_at_call 100; exact Calls.quiet_of_same (hfa _ _)))
        have h := HC.out.drewN nq
        have hf := HFR.out.drewN nq
        generalize wr.drewN nq = w2 at *
        have c1 := h.c_pos
        rw [HI2.out.pos] at c1
        have cb2 : w2.cell? ⟨P, 1, none⟩ = some (.int .u8 xn) := by
          have := h.cbuf 0 (by decide)
          rw [HI2.out.buf 0 (by omega), hgT] at this
          rw [← HXN.out]
          exact this
        have H2 := Lib.hid h
        have HF2 := Lib.hid hf
        clear h hf
        go_wp2
        go_quiet (fail)
        have h := H2.out.drewN nq
        have hf := HF2.out.drewN nq
        generalize w2.drewN nq = w3 at *
        obtain ⟨d1, d2, d3, d4, d5, d6, d7, d8, d9, d10, fz⟩ := h.facts
        rw [HI2.out.pos] at d1
        have H3 := Lib.hid h
        have HF3 := Lib.hid hf
        clear h hf cb2 c1 cb c2
        have hinv : ∀ k : Flds, k.off = g.off → k.fin = g.fin → k.pos = 1 → k.T = g.T → k.ri = g.ri → k.buf = g.buf → k.lcl = 1 → Inv k (o + e) e2 1 := by
          intro k k1 k2 k3 k4 k5 k6 k7
          exact ⟨k1.trans HI2.out.off, k2.trans HI2.out.fin, k3, he2, HI2.out.he, by rw [k4]; exact HI2.out.hT, k5.trans HI2.out.ri, fun j hj => by rw [k6, k4]; exact HI2.out.buf j hj, by rw [k6]; exact HI2.out.sen, .inr k7⟩
        have htok : ∀ k : Flds, k.tp = g.tp → k.tb = g.tb → k.T = g.T → Tok k (o + e) 0 tk := by
          intro k k1 k2 k3
          have := HT2.out
          cases tk with
          | none => exact k1.trans this
          | some t =>
            obtain ⟨tp, t1, t2, t3, t4⟩ := this
            exact ⟨tp, k1.trans t1, t2, by rw [k2]; exact t3, by rw [k2, k3]; exact t4⟩
        have HINV := Lib.hid hinv
        have HTOK := Lib.hid htok
        clear hinv htok
        by_cases hx : xn = 10
        · subst hx
          go_wp2
          go_ret
          exact ⟨by first | rfl | (rw [HXN.out]; rfl) | (rw [HIF.out]; rfl), _, ((((((H3.out.s_pos _).s_lcl _).s_col _).s_line _).s_lll _).s_col _), e2, 1, HINV.out _ rfl rfl rfl rfl rfl rfl rfl, HTOK.out _ rfl rfl rfl, ⟨hkeep.T, hkeep.te, hkeep.ch, hkeep.err, hkeep.ec, hkeep.pk⟩, rfl, rfl, (((((HF3.out.sP hP _ _).sP hP _ _).sP hP _ _).sP hP _ _).sP hP _ _).sP hP _ _⟩
        · have hx1 : ((xn : Int) == 10) = false := by simp; omega
          have hx2 : ((xn : Int) == 0) = false := by simp; omega
          go_wp2
          go_ret
          exact ⟨by first | rfl | (rw [HXN.out]; rfl) | (rw [HIF.out]; rfl), _, (((H3.out.s_pos _).s_lcl _).s_col _), e2, 1, HINV.out _ rfl rfl rfl rfl rfl rfl rfl, HTOK.out _ rfl rfl rfl, ⟨hkeep.T, hkeep.te, hkeep.ch, hkeep.err, hkeep.ec, hkeep.pk⟩, rfl, rfl, ((HF3.out.sP hP _ _).sP hP _ _).sP hP _ _⟩
      · have hd4 : decide ((e2 : Int) < 4) = false := decide_eq_false (by omega)
        clear h4
        go_wp2
        go_quiet (fail)
        have h := HC.out.drewN nq
        have hf := HFR.out.drewN nq
        generalize wr.drewN nq = w2 at *
        have c1 := h.c_pos
        rw [HI2.out.pos] at c1
        have cb2 : w2.cell? ⟨P, 1, none⟩ = some (.int .u8 xn) := by
          have := h.cbuf 0 (by decide)
          rw [HI2.out.buf 0 (by omega), hgT] at this
          rw [← HXN.out]
          exact this
        have H2 := Lib.hid h
        have HF2 := Lib.hid hf
        clear h hf
        go_wp2
        go_quiet (fail)
        have h := H2.out.drewN nq
        have hf := HF2.out.drewN nq
        generalize w2.drewN nq = w3 at *
        obtain ⟨d1, d2, d3, d4, d5, d6, d7, d8, d9, d10, fz⟩ := h.facts
        rw [HI2.out.pos] at d1
        have H3 := Lib.hid h
        have HF3 := Lib.hid hf
        clear h hf cb2 c1 cb c2
        have hinv : ∀ k : Flds, k.off = g.off → k.fin = g.fin → k.pos = 1 → k.T = g.T → k.ri = g.ri → k.buf = g.buf → k.lcl = 1 → Inv k (o + e) e2 1 := by
          intro k k1 k2 k3 k4 k5 k6 k7
          exact ⟨k1.trans HI2.out.off, k2.trans HI2.out.fin, k3, he2, HI2.out.he, by rw [k4]; exact HI2.out.hT, k5.trans HI2.out.ri, fun j hj => by rw [k6, k4]; exact HI2.out.buf j hj, by rw [k6]; exact HI2.out.sen, .inr k7⟩
        have htok : ∀ k : Flds, k.tp = g.tp → k.tb = g.tb → k.T = g.T → Tok k (o + e) 0 tk := by
          intro k k1 k2 k3
          have := HT2.out
          cases tk with
          | none => exact k1.trans this
          | some t =>
            obtain ⟨tp, t1, t2, t3, t4⟩ := this
            exact ⟨tp, k1.trans t1, t2, by rw [k2]; exact t3, by rw [k2, k3]; exact t4⟩
        have HINV := Lib.hid hinv
        have HTOK := Lib.hid htok
        clear hinv htok
        by_cases hx : xn = 10
        · subst hx
          go_wp2
          go_ret
          exact ⟨by first | rfl | (rw [HXN.out]; rfl) | (rw [HIF.out]; rfl), _, ((((((H3.out.s_pos _).s_lcl _).s_col _).s_line _).s_lll _).s_col _), e2, 1, HINV.out _ rfl rfl rfl rfl rfl rfl rfl, HTOK.out _ rfl rfl rfl, ⟨hkeep.T, hkeep.te, hkeep.ch, hkeep.err, hkeep.ec, hkeep.pk⟩, rfl, rfl, (((((HF3.out.sP hP _ _).sP hP _ _).sP hP _ _).sP hP _ _).sP hP _ _).sP hP _ _⟩
        · have hx1 : ((xn : Int) == 10) = false := by simp; omega
          have hx2 : ((xn : Int) == 0) = false := by simp; omega
          go_wp2
          go_ret
          exact ⟨by first | rfl | (rw [HXN.out]; rfl) | (rw [HIF.out]; rfl), _, (((H3.out.s_pos _).s_lcl _).s_col _), e2, 1, HINV.out _ rfl rfl rfl rfl rfl rfl rfl, HTOK.out _ rfl rfl rfl, ⟨hkeep.T, hkeep.te, hkeep.ch, hkeep.err, hkeep.ec, hkeep.pk⟩, rfl, rfl, ((HF3.out.sP hP _ _).sP hP _ _).sP hP _ _⟩
end Go.Proofs.YthfjakbpeclfcaaGreatDoor
