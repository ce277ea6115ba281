/-
  The scanner's TokenText.
  The scanner's Scan on a text of the grammar.
-/
import Derived.Test.YthfjakbpeclfcaaGreatDoorGNa
import Derived.Test.YthfjakbpeclfcaaGreatDoorSn
namespace Go.Proofs.YthfjakbpeclfcaaGreatDoor
open Go.RowKit Go

/-- The scanner between two tokens: the char at n is ahead. -/
structure Rdy (B P RD : Nat) (n : Nat) (f : Flds) (w : World) : Prop where
  core : Core B P RD f w
  inv : ∃ o e p : Nat, adv f.T n = o + p ∧ Inv f o e p
  lcl : f.lcl = one f.T n
  lp : f.lcl ≤ f.pos
  ch : f.ch = nxt f.T n
  asc : Asc f.T
  nou : NoU f.T
  sz : f.T.size ≤ 100000
/-- Behind Scan: the token is the text from i to n. -/
structure Td (B P RD : Nat) (i n : Nat) (f : Flds) (w : World) : Prop where
  rdy : Rdy B P RD n f w
  tok : ∃ o e p tp te : Nat, Inv f o e p ∧ f.te = te ∧ te ≤ p ∧ o + te = n ∧ f.tp = tp ∧ tp ≤ te ∧ o + tp = i + f.tb.length ∧ f.tb = (f.T.data.toList.drop i).take f.tb.length
  le : n ≤ f.T.size
def sub (T : ByteArray) (i n : Nat) : ByteArray := ⟨((T.data.toList.drop i).take (n - i)).toArray⟩

theorem Rdy.same {B P RD n : Nat} {f g : Flds} {w w' : World} (h : Rdy B P RD n f w) (hc : Core B P RD g w') (h1 : g.T = f.T) (h2 : g.buf = f.buf) (h3 : g.pos = f.pos) (h4 : g.fin = f.fin) (h5 : g.off = f.off)
    (h6 : g.lcl = f.lcl) (h7 : g.ch = f.ch) (h8 : g.ri = f.ri) : Rdy B P RD n g w' := by
  obtain ⟨o, e, p, k, i⟩ := h.inv
  exact ⟨hc, ⟨o, e, p, by rw [h1]; exact k, ⟨h5.trans i.off, h4.trans i.fin, h3.trans i.pos, i.hp, i.he, by rw [h1]; exact i.hT, h8.trans i.ri, fun j hj => by rw [h2, h1]; exact i.buf j hj, by rw [h2]; exact i.sen, by rw [h6]; exact i.lcl⟩⟩,
    by rw [h6, h1]; exact h.lcl, by rw [h6, h3]; exact h.lp, by rw [h7, h1]; exact h.ch, by rw [h1]; exact h.asc, by rw [h1]; exact h.nou, by rw [h1]; exact h.sz⟩

set_option maxHeartbeats 2000000 in
set_option maxRecDepth 100000 in
theorem tt_any (B P RD : Nat) (f : Flds) (w : World) (i n : Nat) (h : Td B P RD i n f w) :
    Calls Tryz.prog 75 #[.pointer (some ⟨P, 0, none⟩)] w fun en w' => ∃ f', en = .returned (.string (sub f.T i n)) ∧ Rdy B P RD n f' w' ∧ f'.T = f.T ∧ f'.err = f.err ∧ f'.ec = f.ec ∧ f'.pk = f.pk ∧ Fr B P RD w w' := by
  obtain ⟨hr, ⟨o, e, p, tp, te, hI, hte, htep, hon, htp, htt, hot, htb⟩, hnT⟩ := h
  have hc := hr.core
  have c1 := hc.c_tp
  rw [htp] at c1
  have c2 := hc.c_te
  rw [hte] at c2
  have hP := hc.hP
  have he := hI.he
  have hp := hI.hp
  have htp0 : (0 : Int) ≤ tp := by omega
  have htt' : (tp : Int) ≤ te := by omega
  have hte2 : (te : Int) ≤ 1025 := by omega
  have hne : ¬ (1025 : Nat) = tp := by omega
  have hlen := Tryz.Buffer_Len_at 101 (cellOf RD f) B P 1033 (Lib.byteCells f.tb) w hc.b
  have HR := Lib.hid hr
  have HC := Lib.hid hc
  have HI := Lib.hid hI
  clear hr hc hI
  go_enter Tryz.func75, Tryz.ntmps75
  go_wp2
  go_quiet (fail)
  have hC2 := HC.out.drewN nq
  have hF2 : Fr B P RD w (w.drewN nq) := Fr.refl.drewN nq
  generalize w.drewN nq = w2 at *
  have HC2 := Lib.hid hC2
  have HF2 := Lib.hid hF2
  clear hC2 hF2 hlen
  go_wp2_with fail
  refine (Tryz.Buffer_Len_at 101 (cellOf RD f) B P 1033 (Lib.byteCells f.tb) w2 HC2.out.b).mono ?_
  rintro e1 w' ⟨rfl, m, rfl⟩
  rw [Lib.byteCells_length]
  have hC3 := HC2.out.drewN m
  have hF3 := HF2.out.drewN m
  generalize w2.drewN m = w3 at *
  have d1 := hC3.c_tp
  rw [htp] at d1
  have d2 := hC3.c_te
  rw [hte] at d2
  have z := hC3.frz
  have hpos : ∀ l : List UInt8, l = (f.T.data.toList.drop (o + tp)).take (te - tp) → l.length = te - tp := by
    intro l hl
    rw [hl, List.length_take, List.length_drop, tlen]
    have := HI.out.hT
    omega
  have hll := hpos _ rfl
  by_cases hb : f.tb = []
  · have hb0 : ((f.tb.length : Int) == 0) = true := by rw [hb]; rfl
    have hoi : o + tp = i := by rw [hot, hb]; rfl
    have hres : sub f.T i n = ⟨((f.T.data.toList.drop (o + tp)).take (te - tp)).toArray⟩ := by
      unfold sub
      rw [hoi, show n - i = te - tp from by omega]
    have hcv : ∀ k, (convert 85 9 (.slice (some ⟨P, 1 + tp, none⟩) (te - tp) (1025 - tp))).run Tryz.prog (w3.drewN k) = .ok (.string ⟨((f.T.data.toList.drop (o + tp)).take (te - tp)).toArray⟩) (w3.drewN k) := by
      intro k
      have hck := hC3.drewN k
      have := run_convert_bytes_back (P := Tryz.prog) (w3.drewN k) 85 9 5 ⟨P, 1 + tp, none⟩ (1025 - tp) ((f.T.data.toList.drop (o + tp)).take (te - tp)) Tryz.underlying85 Tryz.underlying5 Tryz.underlying9 (by
        intro j hj
        rw [hll] at hj
        rw [Lib.addr_add, show 1 + tp + j = (tp + j) + 1 from by omega, hck.cbuf (tp + j) (by omega), HI.out.buf (tp + j) (by omega)]
        congr 2
        unfold tx
        rw [List.getElem_take, List.getElem_drop, List.getD_eq_getElem?_getD, List.getElem?_eq_getElem (by rw [tlen]; have := HI.out.hT; omega)]
        simp [Nat.add_assoc])
      rw [hll] at this
      exact this
    have HC3 := Lib.hid hC3
    have HF3 := Lib.hid hF3
    have HRES := Lib.hid hres
    clear hC3 hF3 hres hpos hll hb htb hot hon hoi
    generalize ((f.T.data.toList.drop (o + tp)).take (te - tp)).toArray = arr at *
    go_wp2
    go_quiet (fail)
    go_wp2
    go_ret
    exact ⟨f, by rw [HRES.out]; rfl, HR.out.same (HC3.out.drewN _) rfl rfl rfl rfl rfl rfl rfl rfl, rfl, rfl, rfl, rfl, HF3.out.drewN _⟩
  · have hbl : 0 < f.tb.length := List.length_pos_iff.2 hb
    have hb0 : ((f.tb.length : Int) == 0) = false := by simp; omega
    have HC3 := Lib.hid hC3
    have HF3 := Lib.hid hF3
    have HLL := Lib.hid hll
    have HTB := Lib.hid htb
    have HOT := Lib.hid hot
    have HON := Lib.hid hon
    clear hC3 hF3 hpos hll hb htb hot hon
    go_wp2
    go_still_tail 15, (by kernel_rfl)
    change wpList _ _ _ _ _ w3.drew
    have h3 := HC3.out.drewN 1
    have hf3 := HF3.out.drew
    change Core B P RD f w3.drew at h3
    generalize w3.drew = w4 at *
    have hbw := buf_write 101 (cellOf RD f) B P 1033 (Lib.byteCells f.tb) (Lib.byteCells ((f.T.data.toList.drop (o + tp)).take (te - tp))) (1 + tp) (te - tp) (1025 - tp) w4 h3.b h3.hs (Lib.byteCells_one _)
      (by rw [Lib.byteCells_length]; exact HLL.out) (by omega)
      (fun j hj v => by
        obtain ⟨j1, j2⟩ := tx_cell _ _ _ _ _ v
        rw [j2, show 1 + tp + j = (tp + j) + 1 from by omega]
        have := h3.cbuf (tp + j) (by omega)
        rw [h3.at _ (.inl (by omega))] at this
        rw [this, HI.out.buf (tp + j) (by omega), Nat.add_assoc]) (Lib.byteCells_one _) (by rw [Lib.byteCells_length]; have := HI.out.hT; have := HR.out.sz; have := HOT.out; omega)
    have HB4 := Lib.hid h3
    have HF4 := Lib.hid hf3
    clear h3 hf3
    go_wp2_with (go_at_call 91; refine hbw.mono ?_)
    rintro e1 w5 ⟨rfl, hib, hbel, hok⟩
    have hC5 : Core B P RD { f with tb := f.tb ++ (f.T.data.toList.drop (o + tp)).take (te - tp) } w5 := by
      refine ⟨?_, Nat.le_trans HB4.out.hs hbel.size, HB4.out.hr, HB4.out.ne, hok RD _ HB4.out.r (fun e => HB4.out.ne (Option.some.inj e)) (fun cs fz e => by cases e)⟩
      have e1 : Lib.byteCells (f.tb ++ (f.T.data.toList.drop (o + tp)).take (te - tp)) = Lib.byteCells f.tb ++ Lib.byteCells ((f.T.data.toList.drop (o + tp)).take (te - tp)) := by unfold Lib.byteCells; rw [List.map_append]
      rw [e1]
      exact hib
    have hF5 := HF4.out.buf hbel hok
    have q1 := hC5.c_tp
    have q2 : w5.cell? ⟨P, 1037, none⟩ = some (.int .i64 te) := hte ▸ hC5.c_te
    have q3 := hC5.frz
    have hC6 := hC5.s_tp te
    have hstr := Tryz.Buffer_String_at 101 _ B P 1033 (f.tb ++ (f.T.data.toList.drop (o + tp)).take (te - tp)) _ hC6.b
    have hres : sub f.T i n = ⟨(f.tb ++ (f.T.data.toList.drop (o + tp)).take (te - tp)).toArray⟩ := by
      unfold sub
      rw [show n - i = f.tb.length + (te - tp) from by have := HOT.out; have := HON.out; omega, List.take_add, ← HTB.out, List.drop_drop, show i + f.tb.length = o + tp from HOT.out.symm]
    have HC6 := Lib.hid hC6
    have HF5 := Lib.hid hF5
    have HSTR := Lib.hid hstr
    have HRES := Lib.hid hres
    clear hC5 hF5 hib hbel hok hbw hC6 hstr hres
    go_wp2_with (go_at_call 92; refine HSTR.out.mono ?_)
    rintro e1 w6 ⟨rfl, m2, rfl⟩
    go_wp2
    go_ret
    exact ⟨_, by rw [HRES.out]; rfl, HR.out.same (HC6.out.drewN _) rfl rfl rfl rfl rfl rfl rfl rfl, rfl, rfl, rfl, rfl, (HF5.out.sP hP _ _).drewN _⟩
end Go.Proofs.YthfjakbpeclfcaaGreatDoor

namespace Go.Proofs.YthfjakbpeclfcaaGreatDoor
open Go.RowKit Go

/-- The shapes of a token at i that end at n; its kind. -/
inductive Kd
  | eof | id | num | ch (c : Int)
inductive TokAt (T : ByteArray) : Nat → Nat → Kd → Prop
  | eof (i : Nat) (h : nxt T i = -1) : TokAt T i i .eof
  | id (i k : Nat) (h : isIdn (nxt T i) 0 = true) (hk : (∀ j, j < k → isIdn (nxt T (i + 1 + j)) 1 = true) ∧ isIdn (nxt T (i + 1 + k)) 1 = false) : TokAt T i (i + 1 + k) .id
  | sign (i : Nat) (h : nxt T i = 40 ∨ nxt T i = 41 ∨ nxt T i = 44 ∨ nxt T i = 45) : TokAt T i (i + 1) (.ch (nxt T i))
  | num (i n : Nat) (h : isDec (nxt T i) = true) (hn : ∀ (B P RD : Nat) (f : Flds) (w : World) (tk : Option Nat), f.T = T → At B P RD tk i f w → ScW B w →
      Calls Tryz.prog 85 #[.pointer (some ⟨P, 0, none⟩), .int .i32 (nxt T i), .bool false] w fun en w' => numOut B P RD tk f w n en w') : TokAt T i n .num
  | dot (i n : Nat) (h : nxt T i = 46) (h2 : isDec (nxt T (i + 1)) = true) (hn : ∀ (B P RD : Nat) (f : Flds) (w : World) (tk : Option Nat), f.T = T → At B P RD tk (i + 1) f w → ScW B w →
      Calls Tryz.prog 85 #[.pointer (some ⟨P, 0, none⟩), .int .i32 (nxt T (i + 1)), .bool true] w fun en w' => numOut B P RD tk f w n en w') : TokAt T i n .num
def wsc (c : Int) : Prop := c = 32 ∨ c = 9 ∨ c = 10 ∨ c = 13
def Blank (T : ByteArray) (i m : Nat) : Prop := i ≤ m ∧ (∀ j, i ≤ j → j < m → wsc (nxt T j)) ∧ ¬ wsc (nxt T m)

/-- The mask of white space. -/
def wsB (c : Int) : Bool := bits .and .u64 4294977024 (IntKind.u64.wrap (2 ^ min (IntKind.u64.wrap c).toNat 64)) != 0
theorem ws_fin : ∀ n : Fin 129, wsB ((n.val : Int) - 1) = (decide ((n.val : Int) - 1 = 32) || decide ((n.val : Int) - 1 = 9) || decide ((n.val : Int) - 1 = 10) || decide ((n.val : Int) - 1 = 13)) := by decide +kernel
theorem ws_mask (c : Int) (h0 : -1 ≤ c) (h1 : c < 128) : (wsc c → (bits .and .u64 4294977024 (IntKind.u64.wrap (2 ^ min (IntKind.u64.wrap c).toNat 64)) != 0) = true) ∧ (¬ wsc c → (bits .and .u64 4294977024 (IntKind.u64.wrap (2 ^ min (IntKind.u64.wrap c).toNat 64)) != 0) = false) := by
  have h := ws_fin ⟨(c + 1).toNat, by omega⟩
  have e : (((⟨(c + 1).toNat, by omega⟩ : Fin 129).val : Int) - 1) = c := by
    show (((c + 1).toNat : Nat) : Int) - 1 = c
    omega
  rw [e] at h
  unfold wsB at h
  rw [h]
  unfold wsc
  constructor
  · rintro (rfl | rfl | rfl | rfl) <;> rfl
  · intro hn
    simp
    omega

theorem At.le {B P RD n : Nat} {tk : Option Nat} {f : Flds} {w : World} (h : At B P RD tk n f w) : n ≤ f.T.size := by
  obtain ⟨o, e, p, l, k, i, hl, hlp, ht⟩ := h.s.inv
  have := i.hT
  have := i.hp
  unfold adv at k
  split at k <;> omega
theorem At.sub {B P RD n : Nat} {tk : Option Nat} {f : Flds} {w : World} (h : At B P RD tk n f w) : wrap64 (f.pos - f.lcl) = f.pos - f.lcl := by
  obtain ⟨o, e, p, l, k, i, hl, hlp, ht⟩ := h.s.inv
  have h1 := i.he
  have h2 := i.hp
  rw [i.pos, hl]
  unfold wrap64
  omega
theorem At.start {B P RD m : Nat} {g : Flds} {w w2 : World} (h : At B P RD none m g w) (hc : Core B P RD { g with tb := [] } w2) :
    At B P RD (some m) m { g with tb := [], tp := g.pos - g.lcl } (w2.setCell ⟨P, 1036, none⟩ (.int .i64 (g.pos - g.lcl))) := by
  have hlc := h.lcl
  obtain ⟨o, e, p, l, k, i, hl, hlp, ht⟩ := h.s.inv
  refine ⟨⟨hc.s_tp _, o, e, p, l, k, ⟨i.off, i.fin, i.pos, i.hp, i.he, i.hT, i.ri, i.buf, i.sen, i.lcl⟩, hl, hlp, p - l, ?_, Nat.le_refl _, ?_, rfl⟩, h.lcl, h.asc, h.nou, h.sz⟩
  · show g.pos - g.lcl = _
    rw [i.pos, hl]
    omega
  · show o + (p - l) = m + 0
    rw [hlc] at hl
    unfold one at hl
    unfold adv at k
    split at k <;> split at hl <;> omega
theorem At.fin {B P RD m n : Nat} {g : Flds} {w : World} (h : At B P RD (some m) n g w) :
    Td B P RD m n { g with te := g.pos - g.lcl, ch := nxt g.T n } ((w.setCell ⟨P, 1037, none⟩ (.int .i64 (g.pos - g.lcl))).setCell ⟨P, 1038, none⟩ (.int .i32 (nxt g.T n))) := by
  have hle := h.le
  have hlc := h.lcl
  have hcore := (h.s.core.s_te (g.pos - g.lcl)).s_ch (nxt g.T n)
  obtain ⟨o, e, p, l, k, i, hl, hlp, tp, t1, t2, t3, t4⟩ := h.s.inv
  have inv' : Inv { g with te := g.pos - g.lcl, ch := nxt g.T n } o e p := ⟨i.off, i.fin, i.pos, i.hp, i.he, i.hT, i.ri, i.buf, i.sen, i.lcl⟩
  refine ⟨⟨hcore, ⟨o, e, p, k, inv'⟩, h.lcl, ?_, rfl, h.asc, h.nou, h.sz⟩, ⟨o, e, p, tp, p - l, inv', ?_, Nat.sub_le _ _, ?_, t1, t2, t3, t4⟩, hle⟩
  · show g.lcl ≤ g.pos
    rw [hl, i.pos]
    omega
  · show g.pos - g.lcl = _
    rw [i.pos, hl]
    omega
  · rw [hlc] at hl
    unfold one at hl
    unfold adv at k
    split at k <;> split at hl <;> omega

theorem Rdy.at {B P RD n : Nat} {f : Flds} {w : World} (h : Rdy B P RD n f w) : At B P RD none n { f with tp := -1 } (w.setCell ⟨P, 1036, none⟩ (.int .i64 (-1))) := by
  obtain ⟨o, e, p, h1, h2⟩ := h.inv
  have hl : ∃ l : Nat, f.lcl = l := by rcases h2.lcl with h | h; exact ⟨0, h⟩; exact ⟨1, h⟩
  obtain ⟨l, hl⟩ := hl
  have hlp := h.lp
  rw [h2.pos, hl] at hlp
  exact ⟨⟨h.core.s_tp (-1), o, e, p, l, h1, ⟨h2.off, h2.fin, h2.pos, h2.hp, h2.he, h2.hT, h2.ri, h2.buf, h2.sen, h2.lcl⟩, hl, by omega, rfl⟩, h.lcl, h.asc, h.nou, h.sz⟩

theorem At.same {B P RD n : Nat} {tk : Option Nat} {f g : Flds} {w w' : World} (h : At B P RD tk n f w) (hc : Core B P RD g w') (h1 : g.T = f.T) (h2 : g.buf = f.buf) (h3 : g.pos = f.pos) (h4 : g.fin = f.fin) (h5 : g.off = f.off)
    (h6 : g.lcl = f.lcl) (h7 : g.tp = f.tp) (h8 : g.ri = f.ri) (h9 : g.tb = f.tb) : At B P RD tk n g w' := by
  obtain ⟨o, e, p, l, k, i, hl, hlp, ht⟩ := h.s.inv
  refine ⟨⟨hc, o, e, p, l, by rw [h1]; exact k, ⟨h5.trans i.off, h4.trans i.fin, h3.trans i.pos, i.hp, i.he, by rw [h1]; exact i.hT, h8.trans i.ri, fun j hj => by rw [h2, h1]; exact i.buf j hj, by rw [h2]; exact i.sen, by rw [h6]; exact i.lcl⟩, h6.trans hl, hlp, ?_⟩,
    by rw [h6, h1]; exact h.lcl, by rw [h1]; exact h.asc, by rw [h1]; exact h.nou, by rw [h1]; exact h.sz⟩
  cases tk with
  | none => exact h7.trans ht
  | some t =>
    obtain ⟨tp, t1, t2, t3, t4⟩ := ht
    exact ⟨tp, h7.trans t1, t2, by rw [h9]; exact t3, by rw [h9, h1]; exact t4⟩
theorem idn_fin : ∀ n : Fin 10, isIdn ((n.val : Int) + 48) 0 = false := by decide
theorem idn_dec (c : Int) (h0 : 48 ≤ c) (h1 : c ≤ 57) : isIdn c 0 = false := by
  have h := idn_fin ⟨(c - 48).toNat, by omega⟩
  have e : (((⟨(c - 48).toNat, by omega⟩ : Fin 10).val : Int) + 48) = c := by
    show (((c - 48).toNat : Nat) : Int) + 48 = c
    omega
  rw [e] at h
  exact h
structure Kp (f g : Flds) : Prop where
  T : g.T = f.T
  err : g.err = f.err
  ec : g.ec = f.ec
  pk : g.pk = f.pk
theorem Kp.trans {f g k : Flds} (h : Kp f g) (i : Kp g k) : Kp f k := ⟨i.T.trans h.T, i.err.trans h.err, i.ec.trans h.ec, i.pk.trans h.pk⟩
theorem Keep.kp {f g : Flds} (h : Keep f g) : Kp f g := ⟨h.T, h.err, h.ec, h.pk⟩
def shW (c : Int) : Int := IntKind.u64.wrap (1 * 2 ^ (min (IntKind.u64.wrap c).toNat 64))

set_option maxHeartbeats 4000000 in
set_option maxRecDepth 100000 in
theorem scan_gen (B P RD : Nat) (T : ByteArray) (er : Value) (ec : Int) (pk : ByteArray) (w : World) (i m n : Nat) (kd : Kd)
    (hpk : Calls Tryz.prog 79 #[.pointer (some ⟨P, 0, none⟩)] w fun en w' => ∃ f1, en = .returned (.int .i32 (nxt T i)) ∧ Rdy B P RD i f1 w' ∧ f1.T = T ∧ f1.err = er ∧ f1.ec = ec ∧ f1.pk = pk ∧ Fr B P RD w w')
    (hW : ScW B w) (hb : Blank T i m) (ht : TokAt T m n kd) :
    Calls Tryz.prog 74 #[.pointer (some ⟨P, 0, none⟩)] w fun en w' => ∃ t f', en = .returned (.int .i32 t) ∧ (t = -1 ↔ nxt T m = -1) ∧ Td B P RD m n f' w' ∧ f'.T = T ∧ f'.err = er ∧ f'.ec = ec ∧ f'.pk = pk ∧ Fr B P RD w w' := by
  have HW0 := Lib.hid hW
  have HBL := Lib.hid hb
  have HT := Lib.hid ht
  clear hW hb ht
  go_enter Tryz.func74, Tryz.ntmps74
  go_wp2
  go_step3
  go_wp2_with fail
  refine hpk.mono ?_
  rintro e w' ⟨f, rfl, hr, rfl, rfl, rfl, rfl, hf0⟩
  have hP := hr.core.hP
  have hz := hr.core.frz
  have c8 := hr.core.c_tp
  have c11 := hr.core.c_p2
  have HH := Lib.hid hr
  have HW := Lib.hid (HW0.out.below hf0.bel)
  have HF0 := Lib.hid hf0
  clear hr hf0 hpk
  go_wp2
  have hA := HH.out.at
  have hA2 := hA.same (hA.s.core.s_p2 0) rfl rfl rfl rfl rfl rfl rfl rfl rfl
  have hF := (Fr.refl (B := B) (P := P) (RD := RD) (w := w')).sP hP 1036 (.int .i64 (-1)) |>.sP hP 1046 (.int .i64 0)
  generalize (w'.setCell ⟨P, 1036, none⟩ (.int .i64 (-1))).setCell ⟨P, 1046, none⟩ (.int .i64 0) = w1 at *
  have HA := Lib.hid hA2
  have HF := Lib.hid hF
  clear hA hA2 hF
  go_step3
  go_wp2
  go_loopg [3] (m - i) (fun G s3 wr => ∃ (j : Nat) (g : Flds), s3 = .int .i32 (nxt f.T j) ∧ i ≤ j ∧ j ≤ m ∧ G = m - j ∧ At B P RD none j g wr ∧ Kp f g ∧ Fr B P RD w' wr)
  case atStart => exact ⟨i, _, rfl, Nat.le_refl _, HBL.out.1, rfl, HA.out, ⟨rfl, rfl, rfl, rfl⟩, HF.out⟩
  case round =>
    obtain ⟨j, g, rfl, hij, hjm, hG, hat, hkp, hfr⟩ := hrel
    have cw := hat.s.core.c_ws
    have hb := nxt_bound hat.asc j
    rw [hkp.T] at hb
    obtain ⟨hb0, hb1⟩ := hb
    have hmk := ws_mask (nxt f.T j) hb0 hb1
    have HAT := Lib.hid hat
    have HFR := Lib.hid hfr
    have HG := Lib.hid hG
    have HKP := Lib.hid hkp
    clear hat hfr hG hkp
    rcases Nat.lt_or_ge j m with hlt | hge
    · have hws := HBL.out.2.1 j hij hlt
      have hm1 := hmk.1 hws
      clear hmk
      have hjs : j < f.T.size := nxt_lt (fun e => by rw [e] at hws; rcases hws with h | h | h | h <;> cases h)
      have hnx := HAT.out.next (by rw [HKP.out.T]; exact hjs) (HW.out.below HFR.out.bel)
      rw [HKP.out.T] at hnx
      have HNX := Lib.hid hnx
      clear hws hnx hjs
      go_wp2_with (go_at_call 80; refine HNX.out.mono ?_; rintro e w2 ⟨g2, rfl, a1, a2, a3⟩)
      go_roundg (gk - 1)
      case measure => have := HG.out; omega
      case rel => exact ⟨j + 1, g2, rfl, by omega, hlt, by have := HG.out; omega, a1, HKP.out.trans a2.kp, HFR.out.trans a3⟩
    · obtain rfl : j = m := Nat.le_antisymm hjm hge
      have hm1 := hmk.2 HBL.out.2.2
      clear hmk
      have hrs := reset_any B P RD g wr HAT.out.s.core
      have HRS := Lib.hid hrs
      clear hrs
      go_wp2_with (go_at_call 81; refine HRS.out.mono ?_; rintro e w2 ⟨rfl, hc2, hf2⟩)
      have e1 := hc2.c_pos
      have e2 := hc2.c_lcl
      have hsub := HAT.out.sub
      have HC2 := Lib.hid hc2
      have HF2 := Lib.hid (HFR.out.trans hf2)
      clear hc2 hf2
      go_still_tail 12, (by kernel_rfl)
      change wpList _ _ _ _ _ w2.drew
      have hc3 := HC2.out.drewN 1
      have hf3 := HF2.out.drew
      change Core B P RD _ w2.drew at hc3
      generalize w2.drew = w3 at *
      have z3 := hc3.frz
      have t3 := hc3.c_tp
      have hat4 := HAT.out.start hc3
      have hf4 := hf3.sP hP 1036 (.int .i64 (g.pos - g.lcl))
      have HAT4 := Lib.hid hat4
      have HF4 := Lib.hid hf4
      clear hc3 hf3 hat4 hf4
      go_wp2
      generalize w3.setCell ⟨P, 1036, none⟩ (.int .i64 (g.pos - g.lcl)) = w4 at *
      obtain ⟨k, hk4, hkp4⟩ : ∃ k, At B P RD (some j) j k w4 ∧ Kp f k := ⟨_, HAT4.out, HKP.out.trans ⟨rfl, rfl, rfl, rfl⟩⟩
      clear HAT4 hsub e1 e2 z3 t3 HC2 HF2
      have e1 := hk4.s.core.c_off
      have e2 := hk4.s.core.c_tp
      have HK4 := Lib.hid hk4
      have HKP4 := Lib.hid hkp4
      clear hk4 hkp4
      go_still_tail 13, (by kernel_rfl)
      change wpList _ _ _ _ _ w4.drew
      have hat5 := HK4.out.drewN 1
      have hf5 := HF4.out.drew
      change At B P RD (some j) j k w4.drew at hat5
      generalize w4.drew = w5 at *
      have z5 := hat5.s.core.frz
      have t5 := hat5.s.core.c_p1
      have hat6 := hat5.same (hat5.s.core.s_p1 (wrap64 (k.off + k.tp))) rfl rfl rfl rfl rfl rfl rfl rfl rfl
      have hf6 := hf5.sP hP 1045 (.int .i64 (wrap64 (k.off + k.tp)))
      generalize hw6 : w5.setCell ⟨P, 1045, none⟩ (.int .i64 (wrap64 (k.off + k.tp))) = w6 at *
      have hc6 := hat6.s.core
      have q1 : w6.cell? ⟨P, 1030, none⟩ = some (.int .i64 k.col) := hc6.c_col
      have q2 : w6.cell? ⟨P, 1029, none⟩ = some (.int .i64 k.line) := hc6.c_line
      have q3 : w6.cell? ⟨P, 1031, none⟩ = some (.int .i64 k.lll) := hc6.c_lll
      have q4 : w6.cell? ⟨P, 1046, none⟩ = some (.int .i64 k.p2) := hc6.c_p2
      have q5 : w6.cell? ⟨P, 1047, none⟩ = some (.int .i64 k.p3) := hc6.c_p3
      have q6 := hc6.frz
      have HAT6 := Lib.hid hat6
      have HF6 := Lib.hid hf6
      clear hat5 hf5 hat6 hf6 hc6
      go_upto_if 58 with fail
      clear hw6
      go_cut [3] (fun s3 wx => s3 = .int .i32 (nxt f.T j) ∧ ∃ g, At B P RD (some j) j g wx ∧ Kp f g ∧ Fr B P RD w' wx)
      case first =>
        by_cases hcol : 0 < k.col
        · go_wp2
          go_meet
          exact ⟨rfl, _, HAT6.out.same ((HAT6.out.s.core.s_p2 _).s_p3 _) rfl rfl rfl rfl rfl rfl rfl rfl rfl, HKP4.out.trans ⟨rfl, rfl, rfl, rfl⟩, (HF6.out.sP hP _ _).sP hP _ _⟩
        · have hcol' : k.col ≤ 0 := by omega
          clear hcol
          go_wp2
          go_meet
          exact ⟨rfl, _, HAT6.out.same ((HAT6.out.s.core.s_p2 _).s_p3 _) rfl rfl rfl rfl rfl rfl rfl rfl rfl, HKP4.out.trans ⟨rfl, rfl, rfl, rfl⟩, (HF6.out.sP hP _ _).sP hP _ _⟩
      case rest =>
        obtain ⟨rfl, g2, ha2, hkp2, hf2⟩ := hcut
        have HA2 := Lib.hid ha2
        have HKP2 := Lib.hid hkp2
        have HF2 := Lib.hid hf2
        clear ha2 hkp2 hf2 HAT6 HF6 HK4 HKP4 HF4 q1 q2 q3 q4 q5 q6
--ARMS
        have hid := fun (x : Int) => idn_any B P RD g2 wc HA2.out.s.core (nxt f.T j) x
        have hid0 := hid 0
        have hdc := dec_any (nxt f.T j)
        have hM := HA2.out.s.core.c_mode
        have hm4 : bits .and .u64 28 4 = 4 := by decide
        have hm24 : bits .and .u64 28 24 = 24 := by decide
        have hm16 : bits .and .u64 28 16 = 16 := by decide
        clear hid
        have ht := HT.out
        cases ht with
        | eof h =>
          have hi0 : isIdn (nxt f.T n) 0 = false := by rw [h]; exact isIdn_end 0
          have hd0 : isDec (nxt f.T n) = false := by rw [h]; rfl
          rw [hi0] at hid0
          rw [hd0] at hdc
          have x1 : (nxt f.T n == -1) = true := by rw [h]; rfl
          have HX := Lib.hid h
          clear h hi0 hd0
          go_wp2_with (first | (go_at_call 82; refine hid0.mono ?_; rintro e w7 ⟨rfl, rfl⟩) | (go_at_call 84; refine (hdc _).mono ?_; rintro e w8 ⟨rfl, rfl⟩) | fail)
          obtain ⟨ge, hge⟩ : ∃ ge, ge = g2 := ⟨_, rfl⟩
          have hae := HA2.out
          have hke := HKP2.out
          have hfe := HF2.out
          rw [← hge] at hae hke
          clear hge
          have e1 := hae.s.core.c_pos
          have e2 := hae.s.core.c_lcl
          have hsub := hae.sub
          have HAE := Lib.hid hae
          have HKE := Lib.hid hke
          have HFE := Lib.hid hfe
          clear hae hke hfe
          skip
          go_still_tail 12, (by kernel_rfl)
          change wpList _ _ _ _ _ w8.drew
          have ha9 := HAE.out.drewN 1
          have hf9 := HFE.out.drew
          change At B P RD (some n) n ge w8.drew at ha9
          generalize w8.drew = w9 at *
          have z9 := ha9.s.core.frz
          have t9 := ha9.s.core.c_te
          have s9 := ha9.s.core.c_ch
          have HA9 := Lib.hid ha9
          have HF9 := Lib.hid hf9
          clear ha9 hf9
          go_wp2
          rw [Exit.noGoto_ret]
          go_ret
          have hfin := HA9.out.fin
          rw [HKE.out.T] at hfin
          exact ⟨nxt f.T n, _, rfl, ⟨fun _ => HX.out, fun _ => HX.out⟩, hfin, by first | rfl | exact HKE.out.T, HKE.out.err, HKE.out.ec, HKE.out.pk, HF0.out.trans ((HF9.out.sP hP _ _).sP hP _ _)⟩
        | id k h hk =>
          rw [h] at hid0
          have hlt : j < g2.T.size := by
            rw [HKP2.out.T]
            exact nxt_lt (fun e => by rw [e, isIdn_end] at h; cases h)
          have hian := ident_any B P RD g2 wc (some j) j HA2.out hlt (HW.out.below HF2.out.bel)
          rw [HKP2.out.T] at hian
          have hne : nxt f.T j ≠ -1 := fun e => by rw [e, isIdn_end] at h; cases h
          have HNE := Lib.hid hne
          have HKK := Lib.hid hk
          clear h hk hlt hne
          go_wp2_with (first | (go_at_call 82; refine hid0.mono ?_; rintro e w' ⟨rfl, rfl⟩) | fail)
          refine hian.mono ?_
          rintro e we ⟨k', ge, rfl, b1, b2, b3, b4, b5⟩
          obtain rfl : k = k' := by
            obtain ⟨a1, a2⟩ := HKK.out
            rcases Nat.lt_trichotomy k k' with hl | hl | hl
            · have := b1 k hl
              rw [a2] at this
              cases this
            · exact hl
            · have := a1 k' hl
              rw [b2] at this
              cases this
          have hae := b3
          have hke := HKP2.out.trans b4.kp
          have hfe := HF2.out.trans b5
          clear b1 b2 b3 b4 b5 hian
          have e1 := hae.s.core.c_pos
          have e2 := hae.s.core.c_lcl
          have hsub := hae.sub
          have HAE := Lib.hid hae
          have HKE := Lib.hid hke
          have HFE := Lib.hid hfe
          clear hae hke hfe
          go_wp2
          go_still_tail 12, (by kernel_rfl)
          change wpList _ _ _ _ _ we.drew
          have ha9 := HAE.out.drewN 1
          have hf9 := HFE.out.drew
          change At B P RD (some j) (j + 1 + k) ge we.drew at ha9
          generalize we.drew = w9 at *
          have z9 := ha9.s.core.frz
          have t9 := ha9.s.core.c_te
          have s9 := ha9.s.core.c_ch
          have HA9 := Lib.hid ha9
          have HF9 := Lib.hid hf9
          clear ha9 hf9
          go_wp2
          rw [Exit.noGoto_ret]
          go_ret
          have hfin := HA9.out.fin
          rw [HKE.out.T] at hfin
          exact ⟨-2, _, rfl, ⟨fun e => absurd e (by decide), fun e => absurd e HNE.out⟩, hfin, by first | rfl | exact HKE.out.T, HKE.out.err, HKE.out.ec, HKE.out.pk, HF0.out.trans ((HF9.out.sP hP _ _).sP hP _ _)⟩
        | sign h =>
          have hi0 : isIdn (nxt f.T j) 0 = false := by rcases h with h | h | h | h <;> (rw [h]; decide)
          have hd0 : isDec (nxt f.T j) = false := by rcases h with h | h | h | h <;> (rw [h]; decide)
          rw [hi0] at hid0
          rw [hd0] at hdc
          have x1 : (nxt f.T j == -1) = false := by rcases h with h | h | h | h <;> (rw [h]; rfl)
          have x2 : (nxt f.T j == 34) = false := by rcases h with h | h | h | h <;> (rw [h]; rfl)
          have x3 : (nxt f.T j == 39) = false := by rcases h with h | h | h | h <;> (rw [h]; rfl)
          have x4 : (nxt f.T j == 46) = false := by rcases h with h | h | h | h <;> (rw [h]; rfl)
          have x5 : (nxt f.T j == 47) = false := by rcases h with h | h | h | h <;> (rw [h]; rfl)
          have x6 : (nxt f.T j == 96) = false := by rcases h with h | h | h | h <;> (rw [h]; rfl)
          have hne : nxt f.T j ≠ -1 := by rcases h with h | h | h | h <;> (rw [h]; decide)
          have hnx := HA2.out.next (by rw [HKP2.out.T]; exact nxt_lt hne) (HW.out.below HF2.out.bel)
          rw [HKP2.out.T] at hnx
          have HNE := Lib.hid hne
          have HNX := Lib.hid hnx
          clear h hi0 hd0 hne hnx
          go_wp2_with (first | (go_at_call 82; refine hid0.mono ?_; rintro e w7 ⟨rfl, rfl⟩) | (go_at_call 84; refine (hdc _).mono ?_; rintro e w8 ⟨rfl, rfl⟩) | (go_at_call 80; refine HNX.out.mono ?_; rintro e we ⟨ge, rfl, b1, b2, b3⟩))
          have hae := b1
          have hke := HKP2.out.trans b2.kp
          have hfe := HF2.out.trans b3
          clear b1 b2 b3
          have e1 := hae.s.core.c_pos
          have e2 := hae.s.core.c_lcl
          have hsub := hae.sub
          have HAE := Lib.hid hae
          have HKE := Lib.hid hke
          have HFE := Lib.hid hfe
          clear hae hke hfe
          skip
          go_still_tail 12, (by kernel_rfl)
          change wpList _ _ _ _ _ we.drew
          have ha9 := HAE.out.drewN 1
          have hf9 := HFE.out.drew
          change At B P RD (some j) (j + 1) ge we.drew at ha9
          generalize we.drew = w9 at *
          have z9 := ha9.s.core.frz
          have t9 := ha9.s.core.c_te
          have s9 := ha9.s.core.c_ch
          have HA9 := Lib.hid ha9
          have HF9 := Lib.hid hf9
          clear ha9 hf9
          go_wp2
          rw [Exit.noGoto_ret]
          go_ret
          have hfin := HA9.out.fin
          rw [HKE.out.T] at hfin
          exact ⟨nxt f.T j, _, rfl, ⟨fun e => absurd e HNE.out, fun e => absurd e HNE.out⟩, hfin, by first | rfl | exact HKE.out.T, HKE.out.err, HKE.out.ec, HKE.out.pk, HF0.out.trans ((HF9.out.sP hP _ _).sP hP _ _)⟩
        | num n2 h hn =>
          obtain ⟨d1, d2⟩ := isDec_ne h
          have hi0 : isIdn (nxt f.T j) 0 = false := idn_dec _ d1 d2
          rw [hi0] at hid0
          rw [h] at hdc
          have hne : nxt f.T j ≠ -1 := by omega
          have hsn := hn B P RD g2 wc (some j) HKP2.out.T HA2.out (HW.out.below HF2.out.bel)
          have HNE := Lib.hid hne
          have HSN := Lib.hid hsn
          clear h hi0 hne hsn d1 d2 hn
          go_wp2_with (first | (go_at_call 82; refine hid0.mono ?_; rintro e w7 ⟨rfl, rfl⟩) | (go_at_call 84; refine (hdc _).mono ?_; rintro e w8 ⟨rfl, rfl⟩) | fail)
          refine HSN.out.mono ?_
          rintro e we ⟨tv, ge, rfl, ht3, b1, b2, b3⟩
          have htne : tv ≠ -1 := by rcases ht3 with h | h <;> rw [h] <;> decide
          have HTN := Lib.hid htne
          have hae := b1
          have hke := HKP2.out.trans b2.kp
          have hfe := HF2.out.trans b3
          clear b1 b2 b3 ht3 htne
          rw [HKP2.out.T]
          have e1 := hae.s.core.c_pos
          have e2 := hae.s.core.c_lcl
          have hsub := hae.sub
          have HAE := Lib.hid hae
          have HKE := Lib.hid hke
          have HFE := Lib.hid hfe
          clear hae hke hfe
          go_wp2
          go_still_tail 12, (by kernel_rfl)
          change wpList _ _ _ _ _ we.drew
          have ha9 := HAE.out.drewN 1
          have hf9 := HFE.out.drew
          change At B P RD (some j) n ge we.drew at ha9
          generalize we.drew = w9 at *
          have z9 := ha9.s.core.frz
          have t9 := ha9.s.core.c_te
          have s9 := ha9.s.core.c_ch
          have HA9 := Lib.hid ha9
          have HF9 := Lib.hid hf9
          clear ha9 hf9
          go_wp2
          rw [Exit.noGoto_ret]
          go_ret
          have hfin := HA9.out.fin
          rw [HKE.out.T] at hfin
          exact ⟨tv, _, rfl, ⟨fun e => absurd e HTN.out, fun e => absurd e HNE.out⟩, hfin, by first | rfl | exact HKE.out.T, HKE.out.err, HKE.out.ec, HKE.out.pk, HF0.out.trans ((HF9.out.sP hP _ _).sP hP _ _)⟩
        | dot n2 h h2 hn =>
          have hi0 : isIdn (nxt f.T j) 0 = false := by rw [h]; decide
          have hd0 : isDec (nxt f.T j) = false := by rw [h]; decide
          rw [hi0] at hid0
          rw [hd0] at hdc
          have x1 : (nxt f.T j == -1) = false := by rw [h]; rfl
          have x2 : (nxt f.T j == 34) = false := by rw [h]; rfl
          have x3 : (nxt f.T j == 39) = false := by rw [h]; rfl
          have x4 : (nxt f.T j == 46) = true := by rw [h]; rfl
          have hne : nxt f.T j ≠ -1 := by rw [h]; decide
          have hnx := HA2.out.next (by rw [HKP2.out.T]; exact nxt_lt hne) (HW.out.below HF2.out.bel)
          rw [HKP2.out.T] at hnx
          have hdc2 := dec_any (nxt f.T (j + 1))
          rw [h2] at hdc2
          have HNE := Lib.hid hne
          have HNX := Lib.hid hnx
          clear h hi0 hd0 hne hnx h2
          go_wp2_with (first | (go_at_call 82; refine hid0.mono ?_; rintro e w7 ⟨rfl, rfl⟩) | (go_at_call 84; refine (hdc _).mono ?_; rintro e w8 ⟨rfl, rfl⟩) | fail)
          refine HNX.out.mono ?_
          rintro e wd ⟨gd, rfl, c1, c2, c3⟩
          have hMd := c1.s.core.c_mode
          have hkd := HKP2.out.trans c2.kp
          have hsn := hn B P RD gd wd (some j) hkd.T c1 (HW.out.below (HF2.out.trans c3).bel)
          have HSN := Lib.hid hsn
          have HC3 := Lib.hid (HF2.out.trans c3)
          clear hsn hn c1 c2 c3
          go_wp2_with (first | (go_at_call 84; refine (hdc2 _).mono ?_; rintro e w8 ⟨rfl, rfl⟩) | fail)
          refine HSN.out.mono ?_
          rintro e we ⟨tv, ge, rfl, ht3, b1, b2, b3⟩
          have htne : tv ≠ -1 := by rcases ht3 with h | h <;> rw [h] <;> decide
          have HTN := Lib.hid htne
          have hae := b1
          have hke := hkd.trans b2.kp
          have hfe := HC3.out.trans b3
          clear b1 b2 b3 ht3 htne
          rw [hkd.T]
          have e1 := hae.s.core.c_pos
          have e2 := hae.s.core.c_lcl
          have hsub := hae.sub
          have HAE := Lib.hid hae
          have HKE := Lib.hid hke
          have HFE := Lib.hid hfe
          clear hae hke hfe
          go_wp2
          go_still_tail 12, (by kernel_rfl)
          change wpList _ _ _ _ _ we.drew
          have ha9 := HAE.out.drewN 1
          have hf9 := HFE.out.drew
          change At B P RD (some j) n ge we.drew at ha9
          generalize we.drew = w9 at *
          have z9 := ha9.s.core.frz
          have t9 := ha9.s.core.c_te
          have s9 := ha9.s.core.c_ch
          have HA9 := Lib.hid ha9
          have HF9 := Lib.hid hf9
          clear ha9 hf9
          go_wp2
          rw [Exit.noGoto_ret]
          go_ret
          have hfin := HA9.out.fin
          rw [HKE.out.T] at hfin
          exact ⟨tv, _, rfl, ⟨fun e => absurd e HTN.out, fun e => absurd e HNE.out⟩, hfin, by first | rfl | exact HKE.out.T, HKE.out.err, HKE.out.ec, HKE.out.pk, HF0.out.trans ((HF9.out.sP hP _ _).sP hP _ _)⟩

/-- Scan, a token having been scanned before. -/
theorem scan_old (B P RD : Nat) (f : Flds) (w : World) (i m n : Nat) (kd : Kd) (h : Rdy B P RD i f w) (hW : ScW B w) (hb : Blank f.T i m) (ht : TokAt f.T m n kd) :
    Calls Tryz.prog 74 #[.pointer (some ⟨P, 0, none⟩)] w fun en w' => ∃ t f', en = .returned (.int .i32 t) ∧ (t = -1 ↔ nxt f.T m = -1) ∧ Td B P RD m n f' w' ∧ f'.T = f.T ∧ f'.err = f.err ∧ f'.ec = f.ec ∧ f'.pk = f.pk ∧ Fr B P RD w w' := by
  refine scan_gen B P RD f.T f.err f.ec f.pk w i m n kd ?_ hW hb ht
  have hch : f.ch ≠ -2 := by
    rw [h.ch]
    have := nxt_bound h.asc i
    omega
  refine (peek_old P f.ch w h.core.c_ch hch).mono ?_
  rintro en w' ⟨rfl, rfl⟩
  exact ⟨f, by rw [h.ch], h, rfl, rfl, rfl, rfl, Fr.refl⟩
/-- Scan, the first time. -/
theorem scan_new (B P RD : Nat) (f : Flds) (w : World) (tk : Option Nat) (m n : Nat) (kd : Kd) (h : SAt B P RD tk 0 f w) (hA : Asc f.T) (hN : NoU f.T) (hsz : f.T.size ≤ 100000) (hc : f.ch = -2) (hW : ScW B w) (hb : Blank f.T 0 m) (ht : TokAt f.T m n kd) :
    Calls Tryz.prog 74 #[.pointer (some ⟨P, 0, none⟩)] w fun en w' => ∃ t f', en = .returned (.int .i32 t) ∧ (t = -1 ↔ nxt f.T m = -1) ∧ Td B P RD m n f' w' ∧ f'.T = f.T ∧ f'.err = f.err ∧ f'.ec = f.ec ∧ f'.pk = f.pk ∧ Fr B P RD w w' := by
  refine scan_gen B P RD f.T f.err f.ec f.pk w 0 m n kd ?_ hW hb ht
  refine (peek_new B P RD f w 0 tk h hA hsz hW hc).mono ?_
  rintro en w' ⟨f', rfl, h1, h2, h3, h4, h5, h6, h7, h8⟩
  obtain ⟨hc', o, e, p, l, k1, k2, k3, k4, k5⟩ := h1
  refine ⟨f', rfl, ⟨hc', ⟨o, e, p, by rw [h2]; exact k1, k2⟩, by rw [h7, h2], ?_, by rw [h6, h2], by rw [h2]; exact hA, by rw [h2]; exact hN, by rw [h2]; exact hsz⟩, h2, h3, h4, h5, h8⟩
  rw [k3, k2.pos]
  omega
end Go.Proofs.YthfjakbpeclfcaaGreatDoor
