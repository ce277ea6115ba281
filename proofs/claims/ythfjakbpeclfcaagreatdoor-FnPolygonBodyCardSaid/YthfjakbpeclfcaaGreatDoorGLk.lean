/-
  The plain law of pRead: the text of the reference is read as the tag and the body's tokens.
  The law: pRead and FnPolygonBody.
  FnPolygonBody.
-/
import Derived.Test.YthfjakbpeclfcaaGreatDoorGLb
import Derived.Test.YthfjakbpeclfcaaGreatDoorGTg
import Derived.Test.YthfjakbpeclfcaaGreatDoorGLa
import Derived.Test.YthfjakbpeclfcaaGreatDoorGLq
import Derived.Test.YthfjakbpeclfcaaGreatDoorGFo
namespace Go.Proofs.YthfjakbpeclfcaaGreatDoor
open Go.RowKit Go

/-- A byte of a text that the reference takes. -/
def okB (c : UInt8) : Prop := 1 ≤ c.toNat ∧ c.toNat < 128 ∧ c.toNat ≠ 95
theorem okB_dg {c : UInt8} (h : isDg c) : okB c := by unfold isDg at h; unfold okB; omega
theorem okB_let {c : UInt8} (h : letB c = true) : okB c := by have := letB_num h; unfold okB; omega
theorem okB_exp {E : List UInt8} {x : Int} (h : ExpIs E x) : ∀ c ∈ E, okB c := by
  cases h with
  | none => intro c hc; cases hc
  | plain ec D h _ hd =>
    intro c hc
    rcases List.mem_cons.1 hc with rfl | hc
    · unfold okB; omega
    · exact okB_dg (hd c hc)
  | plus ec D h _ hd =>
    intro c hc
    rcases List.mem_cons.1 hc with rfl | hc
    · unfold okB; omega
    · rcases List.mem_cons.1 hc with rfl | hc
      · unfold okB; decide
      · exact okB_dg (hd c hc)
  | minus ec D h _ hd =>
    intro c hc
    rcases List.mem_cons.1 hc with rfl | hc
    · unfold okB; omega
    · rcases List.mem_cons.1 hc with rfl | hc
      · unfold okB; decide
      · exact okB_dg (hd c hc)
theorem okB_mt {M : List UInt8} (h : Mt M) : ∀ c ∈ M, okB c := by
  cases h with
  | whole A h hA => exact fun c hc => okB_dg (hA c hc)
  | dot A B h hA hB =>
    intro c hc
    rcases List.mem_append.1 hc with hc | hc
    · exact okB_dg (hA c hc)
    · rcases List.mem_cons.1 hc with rfl | hc
      · unfold okB; decide
      · exact okB_dg (hB c hc)
theorem TW.okB {t : Nat × ByteArray} (h : TW t) : ∀ c ∈ t.2.data.toList, Go.Proofs.YthfjakbpeclfcaaGreatDoor.okB c := by
  cases h with
  | sg c h =>
    intro x hx
    simp at hx
    subst hx
    unfold sgB at h
    simp at h
    unfold Go.Proofs.YthfjakbpeclfcaaGreatDoor.okB
    omega
  | word c M h => intro x hx; exact okB_let (h x (by simpa using hx))
  | num M E x hM hE =>
    intro y hy
    have hy : y ∈ M ++ E := by simpa using hy
    rcases List.mem_append.1 hy with hy | hy
    · exact okB_mt hM y hy
    · exact okB_exp hE y hy
theorem RT.okB {j : Bool} {L : List UInt8} {ts : List (Nat × ByteArray)} (h : RT j L ts) : ∀ c ∈ L, Go.Proofs.YthfjakbpeclfcaaGreatDoor.okB c := by
  induction h with
  | nil => intro c hc; cases hc
  | blk j c R ts h hr ih =>
    intro x hx
    rcases List.mem_cons.1 hx with rfl | hx
    · unfold Go.Proofs.YthfjakbpeclfcaaGreatDoor.blk at h
      simp at h
      unfold Go.Proofs.YthfjakbpeclfcaaGreatDoor.okB
      omega
    · exact ih x hx
  | sg j c R ts h0 h hj hr ih =>
    intro x hx
    rcases List.mem_cons.1 hx with rfl | hx
    · unfold sgB at h
      simp at h
      unfold Go.Proofs.YthfjakbpeclfcaaGreatDoor.okB
      omega
    · exact ih x hx
  | wd c R ts h0 h hw hr ih =>
    intro x hx
    rw [← List.take_append_drop (wl (c :: R)) (c :: R)] at hx
    rcases List.mem_append.1 hx with hx | hx
    · exact (wd_shape c R hw).okB x (by simpa using hx)
    · exact ih x hx
theorem tx_mem {T : ByteArray} {i : Nat} (hi : i < T.size) : ∃ c ∈ T.data.toList, tx T i = c.toNat := by
  have hl : i < T.data.toList.length := by simpa using hi
  refine ⟨T.data.toList[i], List.getElem_mem hl, ?_⟩
  unfold tx
  rw [List.getD_eq_getElem?_getD, List.getElem?_eq_getElem hl]
  rfl
theorem RT.asc {T : ByteArray} {ts : List (Nat × ByteArray)} (h : RT false T.data.toList ts) : Asc T ∧ NoU T := by
  refine ⟨fun i hi => ?_, fun i => ?_⟩
  · obtain ⟨c, hc, e⟩ := tx_mem hi
    have := h.okB c hc
    unfold Go.Proofs.YthfjakbpeclfcaaGreatDoor.okB at this
    omega
  · unfold nxt
    split
    · rename_i hi
      obtain ⟨c, hc, e⟩ := tx_mem hi
      have := h.okB c hc
      unfold Go.Proofs.YthfjakbpeclfcaaGreatDoor.okB at this
      omega
    · decide
/-- The joined text is hardly longer. -/
theorem RT.join_len {j : Bool} {L : List UInt8} {ts : List (Nat × ByteArray)} (h : RT j L ts) : (joinT ts).length ≤ L.length + ts.length := by
  induction h with
  | nil => simp [joinT]
  | blk j c R ts h hr ih => simp only [List.length_cons]; omega
  | sg j c R ts h0 h hj hr ih =>
    have e : joinT ((c.toNat, ⟨#[c]⟩) :: ts) = [c, 32] ++ joinT ts := by simp [joinT]
    rw [e]
    simp only [List.length_append, List.length_cons, List.length_nil]
    omega
  | wd c R ts h0 h hw hr ih =>
    have e : joinT ((kdB c, ⟨((c :: R).take (wl (c :: R))).toArray⟩) :: ts) = (c :: R).take (wl (c :: R)) ++ ([32] ++ joinT ts) := by simp [joinT]
    rw [e]
    have h2 : (c :: R).length = ((c :: R).take (wl (c :: R))).length + ((c :: R).drop (wl (c :: R))).length := by rw [← List.length_append, List.take_append_drop]
    simp only [List.length_append, List.length_cons, List.length_nil] at *
    omega
theorem joinT_take (ts : List (Nat × ByteArray)) (n : Nat) : (joinT (ts.take n)).length ≤ (joinT ts).length := by
  have e : joinT ts = joinT (ts.take n) ++ joinT (ts.drop n) := by
    unfold joinT
    rw [← List.flatMap_append, List.take_append_drop]
  rw [e, List.length_append]
  exact Nat.le_add_right _ _
theorem bodOk_pre {l p : List ByteArray} (h : bodOk l = some p) : pbod 0 l = some p ∧ (p.length = 1 → p = [tEMPTY]) := by
  unfold bodOk at h
  cases hp : pbod 0 l with
  | none => rw [hp] at h; cases h
  | some q =>
    rw [hp] at h
    simp only at h
    split at h
    · cases h
    · rename_i hn
      injection h with h
      subst h
      exact ⟨rfl, fun h1 => Classical.byContradiction fun h2 => hn ⟨h1, h2⟩⟩
theorem dn_neT {t : ByteArray} (h : t = tEMPTY ∨ t = tLP ∨ t = tRP) : ∀ j, j < 4 → 1 ≤ j → t ≠ dn j := by
  intro j h4 h1
  have : j = 1 ∨ j = 2 ∨ j = 3 := by omega
  rcases h with rfl | rfl | rfl <;> rcases this with rfl | rfl | rfl <;> decide
theorem bodOk_head {l p : List ByteArray} (h : bodOk l = some p) : ∀ t q, p = t :: q → ∀ j, j < 4 → 1 ≤ j → t ≠ dn j := by
  intro t q hp
  obtain ⟨h1, h2⟩ := bodOk_pre h
  refine dn_neT ?_
  cases l with
  | nil => cases h1
  | cons u r =>
    by_cases hs : stp 0 u = 0
    · rw [pbod_zero hs] at h1
      injection h1 with h1
      subst hp
      injection h1 with h3 h4
      subst h3 h4
      have := h2 rfl
      injection this with this _
      exact .inl this
    · have h1' := h1
      rw [pbod_more hs] at h1
      cases hb : pbod (stp 0 u) r with
      | none => rw [hb] at h1; cases h1
      | some q' =>
        rw [hb] at h1
        simp at h1
        rw [hp] at h1
        injection h1 with h3 _
        subst h3
        unfold stp at hs
        split at hs
        · rename_i e; exact .inr (.inl e)
        · split at hs
          · rename_i e; exact .inr (.inr e)
          · exact absurd rfl hs
/-- The reference's text. -/
def refT (d : Nat) (p : List ByteArray) : ByteArray := ⟨((kn 3).data.toList ++ ((tg d).data.toList ++ (32 :: joinB p))).toArray⟩
theorem refT_rt (d : Nat) (hd : d < 4) (pp : List (Nat × ByteArray)) (h : ∀ t ∈ pp, TW t) : RT false (refT d (pp.map (·.2))).data.toList ((97, kn 3) :: tgl d pp) ∧ ∀ t ∈ (97, kn 3) :: tgl d pp, TW t := by
  have hj := joinT_rt pp h
  rw [joinT_B] at hj
  have hk : TW (97, kn 3) := .word 80 [79, 76, 89, 71, 79, 78] (by decide)
  have hz : ∀ k, 1 ≤ k → k < 4 → TW (97, dn k) := by
    intro k h1 h4
    have : k = 1 ∨ k = 2 ∨ k = 3 := by omega
    rcases this with rfl | rfl | rfl
    · exact .word 90 [] (by decide)
    · exact .word 77 [] (by decide)
    · exact .word 90 [77] (by decide)
  have er : (refT d (pp.map (·.2))).data.toList = (kn 3).data.toList ++ ((tg d).data.toList ++ (32 :: joinB (pp.map (·.2)))) := by simp [refT]
  rw [er]
  generalize joinB (pp.map (·.2)) = J at hj
  have hs : ∀ R, Stop (32 :: R) := fun R => Or.inl rfl
  have e : d = 0 ∨ d = 1 ∨ d = 2 ∨ d = 3 := by omega
  constructor
  · rcases e with rfl | rfl | rfl | rfl
    · exact hk.rt (32 :: J) (hs J) hj.b32 hj.b32
    · have h1 := (hz 1 (by decide) (by decide)).rt (32 :: 32 :: J) (hs _) hj.b32.b32 hj.b32.b32
      exact hk.rt (32 :: (90 :: 32 :: 32 :: J)) (hs _) h1.b32 h1.b32
    · have h1 := (hz 2 (by decide) (by decide)).rt (32 :: 32 :: J) (hs _) hj.b32.b32 hj.b32.b32
      exact hk.rt (32 :: (77 :: 32 :: 32 :: J)) (hs _) h1.b32 h1.b32
    · have h1 := (hz 3 (by decide) (by decide)).rt (32 :: 32 :: J) (hs _) hj.b32.b32 hj.b32.b32
      exact hk.rt (32 :: (90 :: 77 :: 32 :: 32 :: J)) (hs _) h1.b32 h1.b32
  · intro t ht
    rcases List.mem_cons.1 ht with rfl | ht
    · exact hk
    · unfold tgl at ht
      split at ht
      · exact h t ht
      · rcases List.mem_cons.1 ht with rfl | ht
        · exact hz d (by omega) hd
        · exact h t ht
end Go.Proofs.YthfjakbpeclfcaaGreatDoor

namespace Go.Proofs.YthfjakbpeclfcaaGreatDoor
open Go.RowKit Go

/-- What stands behind the reference's reading. -/
def rfO (X : Nat) (rd : ByteArray → Option Nat) (d : Nat) (l : List ByteArray) (N : Nat) (o : Value) (w : World) : Prop :=
  (o = .bool false ∧ npoly rd (dimW d) l = none ∧ ∃ a b e f, w.heap[N]? = some (.cells #[a, b, e, f] 33 (0, 0))) ∨
  ∃ r ao c bo n c2 L, o = .bool true ∧ w.heap[N]? = some (.cells #[.int .i64 3, .int .i64 d, .slice ao 0 c, .slice bo n c2] 33 (0, 0)) ∧ n = L.length ∧ Kds X d w (.slice bo n c2) L ∧ npoly rd (dimW d) l = some (L.map (·.2), r)
theorem nrings_cnt {rd : ByteArray → Option Nat} {D : Nat} : ∀ {f : Nat} {a xs : List (List Nat)} {l r : List ByteArray}, nrings rd D f a l = some (xs, r) → xs.length ≤ a.length + l.length
  | 0, _, _, _, _, h => by cases h
  | _ + 1, _, _, [], _, h => by cases h
  | f + 1, a, xs, t :: l, r, h => by
    by_cases h1 : t = tRP
    · rw [nrings_rp h1] at h
      injection h with h
      injection h with h _
      subst h
      omega
    · by_cases h2 : t = tCM
      · cases hn : nline rd D l with
        | none => rw [nrings_none h2 hn] at h; cases h
        | some z =>
          obtain ⟨ys, q⟩ := z
          rw [nrings_step h2 hn] at h
          have h3 := (nline_sub hn).2
          have := nrings_cnt h
          simp only [List.length_append, List.length_cons, List.length_nil] at *
          omega
      · rw [nrings_bad h1 h2] at h
        cases h
theorem npoly_cnt {rd : ByteArray → Option Nat} {D : Nat} {l r : List ByteArray} {xss : List (List Nat)} (h : npoly rd D l = some (xss, r)) : xss.length ≤ l.length := by
  cases l with
  | nil => cases h
  | cons t l =>
    by_cases h1 : t = tEMPTY
    · rw [npoly_em h1] at h
      injection h with h
      injection h with h _
      subst h
      exact Nat.zero_le _
    · by_cases h2 : t = tLP
      · cases hn : nline rd D l with
        | none => rw [npoly_none h2 hn] at h; cases h
        | some z =>
          obtain ⟨ys, q⟩ := z
          rw [npoly_some h2 hn] at h
          have h3 := (nline_sub hn).2
          have := nrings_cnt h
          simp only [List.length_cons, List.length_nil] at *
          omega
      · rw [npoly_bad h1 h2] at h
        cases h
theorem refT_cat (d : Nat) (p : List ByteArray) : ((kn 3 ++ tg d) ++ ⟨#[32]⟩) ++ ⟨(joinB p).toArray⟩ = refT d p := by
  rw [bytes_eta (kn 3), bytes_eta (tg d), app_bytes, show (⟨#[32]⟩ : ByteArray) = ⟨([32] : List UInt8).toArray⟩ from rfl, app_bytes, app_bytes]
  unfold refT
  simp
set_option maxHeartbeats 4000000 in
set_option maxRecDepth 100000 in
theorem pread_any (B : Nat) (S : ByteArray) (w : World) (d : Int) (hl : LxW B w) (hN : NumP B w) (hB : B ≤ w.heap.size) :
    Calls Tryz.prog 4 #[.int .i64 3, .string S, .int .i64 d, .func (.func 5) #[] #[]] w fun e w' => e = .returned (.bool true) ∧ Below w.heap.size w w' := by
  have hpt := ptk_any S w
  have HL := Lib.hid hl
  have HN := Lib.hid hN
  clear hl hN
  go_enter Tryz.func4, Tryz.ntmps4
  go_wp2_with fail
  refine hpt.mono ?_
  rintro e w1 ⟨h1 | ⟨ts, v, hts, hnp, hS, h1, hown⟩, hb1⟩
  · subst h1
    go_wp2
    go_ret
    exact ⟨rfl, hb1⟩
  · subst h1
    by_cases hd0 : d < 0
    · go_wp2
      go_ret
      exact ⟨rfl, hb1⟩
    · by_cases hd3 : 3 < d
      · go_wp2
        go_ret
        exact ⟨rfl, hb1⟩
      · obtain ⟨k, rfl⟩ : ∃ k : Nat, d = k := ⟨d.toNat, by omega⟩
        have hk : k < 4 := by omega
        have rt := rtk_RT hts
        have htw := rt.tw
        obtain ⟨hsz1, hsz2⟩ := rt.sz
        obtain ⟨hA, hU⟩ := rt.asc
        have hSl : S.data.toList.length = S.size := by simp
        have htk := toks_of rt hnp
        have hjl := rt.join_len
        obtain ⟨l, hl⟩ : ∃ l, l = ts.map (·.2) := ⟨_, rfl⟩
        have hll : l.length = ts.length := by rw [hl, List.length_map]
        have hNT : ∀ t, t ∈ l → NT t (rdT t) := by
          intro t ht
          rw [hl, List.mem_map] at ht
          obtain ⟨u, hu, rfl⟩ := ht
          exact (tw_ok (htw u hu) (by have := hsz1 u hu; omega)).nt
        rw [← hl] at hown htk
        rw [← hll] at hown
        have hbd := bod_any w.heap.size l v w1 hown (by omega) (by
          intro t ht
          rw [hl, List.mem_map] at ht
          obtain ⟨u, hu, rfl⟩ := ht
          have := hsz1 u hu
          omega)
        have HBD := Lib.hid hbd
        have HBW := Lib.hid hb1
        have HB1 := Lib.hid (show Below B w w1 from ⟨hb1.os, hb1.tape, hb1.output, hb1.size, fun k hk => hb1.block k (by omega)⟩)
        clear hbd hb1 hown
        have hLP : rdT tLP = none := (tw_ok (t := (40, tLP)) (.sg 40 (by decide)) (by decide)).nn (by decide)
        have hRP : rdT tRP = none := (tw_ok (t := (41, tRP)) (.sg 41 (by decide)) (by decide)).nn (by decide)
        have hLaw := body_law (rd := rdT) (D := dimW k) hLP hRP l
        have hE0 : ∀ W, Below B w W → npoly rdT (dimW k) l = none → Calls Tryz.prog 5 #[.string S, .int .i64 k] W fun e w' => e = .returned (.tuple #[.agg #[.int .i64 0, .int .i64 0, .slice none 0 0, .slice none 0 0], .bool false]) ∧ Below W.heap.size W w' := by
          intro W hW hn
          refine (rb5 B S rdT l W k hk hA hU (by omega) htk (HL.out.below hW) (HN.out.below hW) (Nat.le_trans hB hW.size) hNT (by omega)).mono ?_
          rintro e w' ⟨h, hb⟩
          unfold rbO at h
          rw [hn] at h
          exact ⟨h, hb⟩
        have hE1 : ∀ W xss r, Below B w W → npoly rdT (dimW k) l = some (xss, r) → Calls Tryz.prog 5 #[.string S, .int .i64 k] W fun e w' => (∃ ao n c L, e = .returned (.tuple #[.agg #[.int .i64 3, .int .i64 k, .slice none 0 0, .slice ao n c], .bool true]) ∧ n = L.length ∧ Kds W.heap.size k w' (.slice ao n c) L ∧ L.map (·.2) = xss ∧ n ≤ l.length) ∧ Below W.heap.size W w' := by
          intro W xss r hW hn
          refine (rb5 B S rdT l W k hk hA hU (by omega) htk (HL.out.below hW) (HN.out.below hW) (Nat.le_trans hB hW.size) hNT (by omega)).mono ?_
          rintro e w' ⟨h, hb⟩
          unfold rbO at h
          rw [hn] at h
          exact ⟨h, hb⟩
        have HE0 := Lib.hid hE0
        have HE1 := Lib.hid hE1
        have HLW := Lib.hid hLaw
        have HTW := Lib.hid htw
        have HJ := Lib.hid hjl
        have HS1 := Lib.hid hsz1
        have HLE := Lib.hid hl
        clear hE0 hE1 hLaw htw hjl hsz1 hNT htk hA hU rt hnp hts hl
        go_wp2_with fail
        refine HBD.out.mono ?_
        rintro e w' ⟨hbo, hw⟩
        have hw := hw.symm
        subst hw
        cases hb : bodOk l with
        | none =>
          unfold bodOut at hbo
          rw [hb] at hbo
          obtain ⟨s, rfl⟩ := hbo
          have hnone : npoly rdT (dimW k) l = none := by
            cases hq : npoly rdT (dimW k) l with
            | none => rfl
            | some z =>
              obtain ⟨p, h1, -⟩ := HLW.out.1 z.1 z.2 hq
              rw [hb] at h1
              cases h1
          have he := HE0.out (w1.alloc (.cells #[.int .i64 0, .int .i64 0, .slice none 0 0, .slice none 0 0] 33)) (HB1.out.alloc (Nat.le_trans hB HB1.out.size) _) hnone
          clear hnone hb
          go_wp2_with fail
          refine he.mono ?_
          rintro e w2 ⟨rfl, hb2⟩
          have HF := Lib.hid ((HBW.out.alloc HBW.out.size _).trans (below_far hb2 (HBW.out.alloc HBW.out.size _).size))
          clear hb2
          go_wp2
          go_ret
          exact ⟨rfl, by first | exact HF.out | exact HF.out.alloc HF.out.size _⟩
        | some p =>
          unfold bodOut at hbo
          rw [hb] at hbo
          have hbo := hbo
          obtain ⟨r0, hr0⟩ := pbod_pre (bodOk_pre hb).1
          obtain ⟨pp, hppd⟩ : ∃ pp, pp = ts.take p.length := ⟨_, rfl⟩
          have hpp : pp.map (·.2) = p := by rw [hppd, List.map_take, ← HLE.out, hr0, List.take_left]
          have hppw : ∀ t ∈ pp, TW t := fun t ht => HTW.out t (by rw [hppd] at ht; exact List.mem_of_mem_take ht)
          have hrt := refT_rt k hk pp hppw
          rw [hpp] at hrt
          have hjp : (joinB p).length ≤ 4000 := by
            rw [← hpp, ← joinT_B, hppd]
            have := joinT_take ts p.length
            have := HJ.out
            omega
          have hsz : (refT k p).data.toList.length ≤ 5000 := by
            have e4 : k = 0 ∨ k = 1 ∨ k = 2 ∨ k = 3 := by omega
            unfold refT
            rcases e4 with rfl | rfl | rfl | rfl <;> simp [kn, tg] <;> omega
          have hsz' : (refT k p).size ≤ 5000 := by simpa using hsz
          have hrz := hrt.1.sz
          have hrw : ∀ W, Below B w W → Calls Tryz.prog 8 #[.string (refT k p)] W fun e w' => rwOut W.heap.size rdT k p e w' ∧ Below W.heap.size W w' := by
            intro W hW
            have h := rw_any B (refT k p) pp rdT W k hk (RT_rtk hrt.1 _ (by simp)) (by omega) (HN.out.below hW) (fun t ht => tw_ok (hrt.2 t ht) (by have := hrz.1 t ht; omega)) (fun t ht => by have := hrz.1 t ht; omega) (by omega) (fun t q hq j h4 h1 => bodOk_head hb t.2 (q.map (·.2)) (by rw [← hpp, hq]; rfl) j h4 h1)
            have e : txs pp = p := hpp
            rw [e] at h
            exact h
          have htgs : (tg k).size ≤ 4 := by
            have e4 : k = 0 ∨ k = 1 ∨ k = 2 ∨ k = 3 := by omega
            rcases e4 with rfl | rfl | rfl | rfl <;> decide
          have hkns : (kn 3).size = 7 := rfl
          have hz1 : ¬ 9223372036854775807 < (kn 3).size + (tg k).size := by omega
          have hz2 : ¬ 9223372036854775807 < (kn 3).size + (tg k).size + 1 := by omega
          have hz3 : ¬ 9223372036854775807 < (kn 3).size + (tg k).size + 1 + (joinB p).length := by omega
          have HRW := Lib.hid hrw
          have HBo := Lib.hid hb
          have hb0 := HB1.out.alloc (Nat.le_trans hB HB1.out.size) (.cells #[.int .i64 0, .int .i64 0, .slice none 0 0, .slice none 0 0] 33)
          have hn0 := heap_alloc_new w1 (.cells #[.int .i64 0, .int .i64 0, .slice none 0 0, .slice none 0 0] 33)
          have htg := tg_any k hk (w1.alloc (.cells #[.int .i64 0, .int .i64 0, .slice none 0 0, .slice none 0 0] 33))
          have hcat := refT_cat k p
          have HCAT := Lib.hid hcat
          have HB2 := Lib.hid hb0
          have HN0 := Lib.hid hn0
          subst hbo
          clear hb hr0 hpp hppw hrt hjp hsz hsz' hrz hrw hb0 hn0 hcat hppd htgs hkns
          go_wp2_with fail
          refine (pk3 _).mono ?_
          rintro e w' ⟨rfl, rfl⟩
          go_wp2_with fail
          refine htg.mono ?_
          rintro e w2 ⟨rfl, hb2⟩
          have hn2 := rb_far HN0.out hb2
          have hw2 := HB2.out.trans (below_far hb2 (Nat.le_trans hB HB2.out.size))
          have hrw2 := HRW.out w2 hw2
          have HN2 := Lib.hid hn2
          have HW2 := Lib.hid hw2
          have hw2x := Lib.hid ((HBW.out.alloc HBW.out.size _).trans (below_far hb2 (HBW.out.alloc HBW.out.size _).size))
          clear hb2 hn2 hw2 htg
          go_wp2_with fail
          rw [HCAT.out]
          refine hrw2.mono ?_
          rintro e w3 ⟨h3, hb3⟩
          have hn3 := rb_far HN2.out hb3
          have hw3 := HW2.out.trans (below_far hb3 (Nat.le_trans hB HW2.out.size))
          have hlt2 := Lib.lt_of_heap HN2.out
          obtain ⟨a0, a1, a2, a3⟩ := cell_four hn3
          have z := Lib.frozen_of_heap hn3
          have HN3 := Lib.hid hn3
          have HW3 := Lib.hid hw3
          have hw3x := Lib.hid (hw2x.out.trans (below_far hb3 hw2x.out.size))
          have hb4x : ∀ x y z u : Value, Below w.heap.size w ((((w3.setCell ⟨w1.heap.size, 0, none⟩ x).setCell ⟨w1.heap.size, 1, none⟩ y).setCell ⟨w1.heap.size, 2, none⟩ z).setCell ⟨w1.heap.size, 3, none⟩ u) := fun x y z u => hw3x.out.trans ((Below.refl w.heap.size w3).grown f4_grown hw3x.out.size (fun k' e => by injection e with e; have := HBW.out.size; omega))
          have HB4X := Lib.hid hb4x
          clear hb4x
          have hB1 : B ≤ w1.heap.size := Nat.le_trans hB HB1.out.size
          clear hrw2 hb3 hn3 hw3
          rcases h3 with ⟨ao, c, v3, L, rfl, hkd, hnp⟩ | ⟨hno, rfl⟩
          · obtain ⟨a5, c5, rfl⟩ := ownsRow_slice hkd.own
            obtain ⟨r, hnl⟩ := HLW.out.2 p _ HBo.out hnp
            have HKD := Lib.hid hkd
            have HNL := Lib.hid hnl
            have hLl : L.length ≤ 500000 := by
              have h1 := npoly_cnt hnl
              rw [List.length_map] at h1
              omega
            have hln : ∀ x ∈ L.map (·.2), x.length ≤ 500000 := fun x hx => by have := (npoly_mod hnl x hx).2; omega
            have HLN := Lib.hid (show ∀ p' : Value × List Nat, p'.2 ∈ L.map (·.2) → p'.2.length ≤ 500000 from fun p' hp' => hln _ hp')
            have he := fun W hW => HE1.out W _ r hW hnl
            have HE := Lib.hid he
            generalize hnn : L.length = nn at *
            have HNN := Lib.hid hnn
            have HK2 : Hid (Kds w2.heap.size k w3 (.slice a5 nn c5) L) := HKD
            clear he hnl hnp hkd hnn hln
            go_wp2_with fail
            refine (HE.out _ (HW3.out.trans ((Below.refl B w3).grown f4_grown (Nat.le_trans hB HW3.out.size) (fun k e => by injection e with e; omega)))).mono ?_
            rintro e w5 ⟨⟨a6, n6, c6, L6, rfl, hn6, hk6, hm6, hle6⟩, hb5⟩
            have h5 := rb_far (f4_heap HN3.out) hb5
            have hk5 := ((((HK2.out.setB (g := w1.heap.size) hlt2 _).setB hlt2 _).setB hlt2 _).setB hlt2 _).far hb5
            have h66 : n6 = nn := by
              have h7 := congrArg List.length hm6
              rw [List.length_map, List.length_map] at h7
              have := HNN.out
              omega
            subst h66
            have hal := (Below.heap_alloc w5 (.cells #[.int .i64 3, .int .i64 k, .slice none 0 0, .slice a6 n6 c6] 33) _ (Lib.lt_of_heap h5)).trans h5
            have hnw := heap_alloc_new w5 (.cells #[.int .i64 3, .int .i64 k, .slice none 0 0, .slice a6 n6 c6] 33)
            have hbn := (Below.refl w5.heap.size w5).alloc (Nat.le_refl _) (.cells #[.int .i64 3, .int .i64 k, .slice none 0 0, .slice a6 n6 c6] 33)
            have hsg := sg_poly _ _ (w5.alloc (.cells #[.int .i64 3, .int .i64 k, .slice none 0 0, .slice a6 n6 c6] 33)) k L6 L none ao a6 a5 0 c n6 c6 c5 hn6 hm6.symm (hk6.far hbn) (hk5.far hbn) (by omega) (fun p' hp' => HLN.out p' (by rw [← hm6]; exact List.mem_map_of_mem hp'))
            clear a0 a1 a2 a3 z
            obtain ⟨a0, a1, a2, a3⟩ := cell_four hal
            obtain ⟨d0, d1, d2, d3⟩ := cell_four h5
            have ne5 := World.new_ne w5 _ d0
            obtain ⟨b0, b1, b2, b3⟩ := cell_four hnw
            have HH := Lib.hid hm6
            have hg4 := HB4X.out (.int .i64 3) (.int .i64 k) (.slice ao 0 c) (.slice a5 n6 c5)
            have hg5 := hg4.trans (below_far hb5 hg4.size)
            have HF := Lib.hid (hg5.trans (below_far hbn hg5.size))
            clear hg4 hg5
            clear h5 hk5 hk6 hm6 hal hnw hbn hb5 hn6 hle6
            go_wp2_with fail
            refine hsg.mono ?_
            rintro e w6 ⟨rfl, hb6⟩
            have HF6 := Lib.hid (HF.out.trans (below_far hb6 HF.out.size))
            clear hb6
            go_wp2
            go_ret
            exact ⟨rfl, HF6.out⟩
          · have hnone : npoly rdT (dimW k) l = none := by
              cases hq : npoly rdT (dimW k) l with
              | none => rfl
              | some y =>
                obtain ⟨p', h1, h2⟩ := HLW.out.1 y.1 y.2 hq
                rw [HBo.out] at h1
                injection h1 with h1
                subst h1
                exact absurd h2 (hno y.1)
            have he := fun W hW => HE0.out W hW hnone
            have HE := Lib.hid he
            clear he hnone hno
            go_wp2_with fail
            refine (HE.out _ (HW3.out.trans ((Below.refl B w3).grown f4_grown (Nat.le_trans hB HW3.out.size) (fun k e => by injection e with e; omega)))).mono ?_
            rintro e w5 ⟨rfl, hb5⟩
            have hg4 := HB4X.out (.int .i64 0) (.int .i64 0) (.slice none 0 0) (.slice none 0 0)
            have HF := Lib.hid (hg4.trans (below_far hb5 hg4.size))
            clear hb5 hg4
            go_wp2
            go_ret
            exact ⟨rfl, by first | exact HF.out | exact HF.out.alloc HF.out.size _⟩
end Go.Proofs.YthfjakbpeclfcaaGreatDoor

namespace Go.Proofs.YthfjakbpeclfcaaGreatDoor
open Go.RowKit Go

set_option maxHeartbeats 2000000 in
set_option maxRecDepth 100000 in
theorem fnpb_any (B : Nat) (S : ByteArray) (w : World) (d : Int) (hl : LxW B w) (hN : NumP B w) (hB : B ≤ w.heap.size) :
    Calls Tryz.prog 3 #[.string S, .int .i64 d] w fun e w' => e = .returned (.bool true) ∧ Below w.heap.size w w' := by
  have hp := pread_any B S w d hl hN hB
  clear hl hN
  go_enter Tryz.func3, Tryz.ntmps3
  by_cases hs : 2147483647 < S.size
  · have hs' : (2147483647 : Int) < S.size := by omega
    go_wp2
    go_ret
    exact ⟨rfl, Below.refl _ _⟩
  · have hs' : ¬ (2147483647 : Int) < S.size := by omega
    go_wp2_with fail
    refine hp.mono ?_
    rintro e w' ⟨rfl, hb⟩
    go_wp2
    go_ret
    exact ⟨rfl, hb⟩
end Go.Proofs.YthfjakbpeclfcaaGreatDoor
