/-
  Plain: the body at the beginning of a list of tokens, and what nextPolygonText takes of it.
  The law's pBody: the body at the beginning of a list of tokens.
-/
import Derived.Test.YthfjakbpeclfcaaGreatDoorPy
import Derived.Test.YthfjakbpeclfcaaGreatDoorGTk
namespace Go.Proofs.YthfjakbpeclfcaaGreatDoor
open Go.RowKit Go

/-- The depth behind a token. -/
def stp (d : Int) (t : ByteArray) : Int := if t = tLP then d + 1 else if t = tRP then d - 1 else d
/-- The tokens up to the one behind which the depth is 0. -/
def pbod : Int → List ByteArray → Option (List ByteArray)
  | _, [] => none
  | d, t :: r => if stp d t = 0 then some [t] else (pbod (stp d t) r).map (t :: ·)
theorem pbod_zero {d : Int} {t : ByteArray} {r : List ByteArray} (h : stp d t = 0) : pbod d (t :: r) = some [t] := by
  show (if stp d t = 0 then some [t] else (pbod (stp d t) r).map (t :: ·)) = _
  rw [if_pos h]
theorem pbod_more {d : Int} {t : ByteArray} {r : List ByteArray} (h : stp d t ≠ 0) : pbod d (t :: r) = (pbod (stp d t) r).map (t :: ·) := by
  show (if stp d t = 0 then some [t] else (pbod (stp d t) r).map (t :: ·)) = _
  rw [if_neg h]
theorem pbod_pre : ∀ {d : Int} {l p : List ByteArray}, pbod d l = some p → ∃ r, l = p ++ r
  | _, [], _, h => by cases h
  | d, t :: l, p, h => by
    by_cases h0 : stp d t = 0
    · rw [pbod_zero h0] at h
      injection h with h
      subst h
      exact ⟨l, rfl⟩
    · rw [pbod_more h0] at h
      cases hl : pbod (stp d t) l with
      | none => rw [hl] at h; cases h
      | some q =>
        rw [hl] at h
        injection h with h
        subst h
        obtain ⟨r, e⟩ := pbod_pre hl
        exact ⟨r, by rw [e]; rfl⟩
theorem pbod_app : ∀ {d : Int} {l p : List ByteArray} (r : List ByteArray), pbod d l = some p → pbod d (l ++ r) = some p
  | _, [], _, _, h => by cases h
  | d, t :: l, p, r, h => by
    by_cases h0 : stp d t = 0
    · rw [pbod_zero h0] at h
      rw [List.cons_append, pbod_zero h0]
      exact h
    · rw [pbod_more h0] at h
      rw [List.cons_append, pbod_more h0]
      cases hl : pbod (stp d t) l with
      | none => rw [hl] at h; cases h
      | some q =>
        rw [pbod_app r hl]
        rw [hl] at h
        exact h
/-- The tokens p are read at a depth, and leave it. -/
def Lev (p : List ByteArray) (d e : Int) : Prop := ∀ r, pbod d (p ++ r) = (pbod e r).map (p ++ ·)
theorem Lev.nil (d : Int) : Lev [] d d := fun r => by simp
theorem Lev.cons {t : ByteArray} {p : List ByteArray} {d e : Int} (h0 : stp d t ≠ 0) (h : Lev p (stp d t) e) : Lev (t :: p) d e := fun r => by
  rw [List.cons_append, pbod_more h0, h r, Option.map_map]
  rfl
theorem Lev.trans {p q : List ByteArray} {d e f : Int} (h : Lev p d e) (i : Lev q e f) : Lev (p ++ q) d f := fun r => by
  rw [List.append_assoc, h, i, Option.map_map]
  congr 1
  funext x
  simp
theorem stp_o {d : Int} {t : ByteArray} (h1 : t ≠ tLP) (h2 : t ≠ tRP) : stp d t = d := by unfold stp; rw [if_neg h1, if_neg h2]
theorem stp_l {d : Int} : stp d tLP = d + 1 := if_pos rfl
theorem stp_r {d : Int} : stp d tRP = d - 1 := by unfold stp; rw [if_neg (by decide), if_pos rfl]

section
variable {rd : ByteArray → Option Nat} {D : Nat} (hL : rd tLP = none) (hR : rd tRP = none)
include hL hR
theorem nlit_lev {l r : List ByteArray} {x : Nat} (h : nlit rd l = some (x, r)) : ∃ p, l = p ++ r ∧ (∀ r', nlit rd (p ++ r') = some (x, r')) ∧ ∀ d : Int, 1 ≤ d → Lev p d d := by
  have hrd : ∀ u y, rd u = some y → u ≠ tLP ∧ u ≠ tRP := fun u y hu => ⟨fun e => (by rw [e, hL] at hu; cases hu), fun e => (by rw [e, hR] at hu; cases hu)⟩
  cases l with
  | nil => cases h
  | cons t q =>
    by_cases ht : t = tMN
    · cases q with
      | nil => rw [nlit_m0 ht] at h; cases h
      | cons u q' =>
        rw [nlit_m ht] at h
        cases hu : rd u with
        | none => rw [hu] at h; cases h
        | some y =>
          rw [hu] at h
          simp only [Option.map_some, Option.some.injEq, Prod.mk.injEq] at h
          obtain ⟨h1, h2⟩ := h
          subst h2
          have hn := hrd u y hu
          refine ⟨[t, u], rfl, fun r' => ?_, fun d hd => ?_⟩
          · show nlit rd (t :: u :: r') = _
            rw [nlit_m ht, hu, Option.map_some, h1]
          · have s1 : stp d t = d := stp_o (by rw [ht]; decide) (by rw [ht]; decide)
            have s2 : stp d u = d := stp_o hn.1 hn.2
            refine Lev.cons (by rw [s1]; omega) ?_
            rw [s1]
            refine Lev.cons (by rw [s2]; omega) ?_
            rw [s2]
            exact Lev.nil d
    · rw [nlit_p ht] at h
      cases hu : rd t with
      | none => rw [hu] at h; cases h
      | some y =>
        rw [hu] at h
        simp only [Option.map_some, Option.some.injEq, Prod.mk.injEq] at h
        obtain ⟨h1, h2⟩ := h
        subst h2
        have hn := hrd t y hu
        refine ⟨[t], rfl, fun r' => ?_, fun d hd => ?_⟩
        · show nlit rd (t :: r') = _
          rw [nlit_p ht, hu, Option.map_some, h1]
        · have s1 : stp d t = d := stp_o hn.1 hn.2
          refine Lev.cons (by rw [s1]; omega) ?_
          rw [s1]
          exact Lev.nil d
theorem nnum_lev : ∀ {k : Nat} {l r : List ByteArray} {xs : List Nat}, nnum rd k l = some (xs, r) → ∃ p, l = p ++ r ∧ (∀ r', nnum rd k (p ++ r') = some (xs, r')) ∧ ∀ d : Int, 1 ≤ d → Lev p d d
  | 0, l, r, xs, h => by
    injection h with h
    injection h with h1 h2
    subst h1 h2
    exact ⟨[], rfl, fun r' => rfl, fun d _ => Lev.nil d⟩
  | k + 1, l, r, xs, h => by
    unfold nnum at h
    cases hl : nlit rd l with
    | none => rw [hl] at h; cases h
    | some z =>
      obtain ⟨x, q⟩ := z
      rw [hl] at h
      simp only at h
      cases hk : nnum rd k q with
      | none => rw [hk] at h; cases h
      | some z =>
        obtain ⟨ys, q'⟩ := z
        rw [hk] at h
        simp only [Option.some.injEq, Prod.mk.injEq] at h
        obtain ⟨rfl, rfl⟩ := h
        obtain ⟨p1, rfl, a1, b1⟩ := nlit_lev hL hR hl
        obtain ⟨p2, rfl, a2, b2⟩ := nnum_lev hk
        refine ⟨p1 ++ p2, by simp, fun r' => ?_, fun d hd => (b1 d hd).trans (b2 d hd)⟩
        unfold nnum
        rw [List.append_assoc, a1]
        simp only
        rw [a2]
theorem npts_lev : ∀ {f : Nat} {a xs : List Nat} {l r : List ByteArray}, npts rd D f a l = some (xs, r) → ∃ p, l = p ++ r ∧ (∀ r' f', p.length ≤ f' → npts rd D f' a (p ++ r') = some (xs, r')) ∧ ∀ d : Int, 1 ≤ d → Lev p (d + 1) d
  | 0, _, _, _, _, h => by cases h
  | _ + 1, _, _, [], _, h => by cases h
  | f + 1, a, xs, t :: l, r, h => by
    by_cases h1 : t = tRP
    · rw [npts_rp h1] at h
      injection h with h
      injection h with h2 h3
      subst h2 h3
      refine ⟨[t], rfl, fun r' f' hf => ?_, fun d hd => ?_⟩
      · obtain ⟨g, rfl⟩ : ∃ g, f' = g + 1 := ⟨f' - 1, by simp at hf; omega⟩
        exact npts_rp h1
      · have s1 : stp (d + 1) t = d := by rw [h1, stp_r]; omega
        refine Lev.cons (by rw [s1]; omega) ?_
        rw [s1]
        exact Lev.nil d
    · by_cases h2 : t = tCM
      · cases hn : nnum rd D l with
        | none => rw [npts_none h2 hn] at h; cases h
        | some z =>
          obtain ⟨ys, q⟩ := z
          rw [npts_step h2 hn] at h
          obtain ⟨p1, rfl, a1, b1⟩ := nnum_lev hL hR hn
          obtain ⟨p2, rfl, a2, b2⟩ := npts_lev h
          refine ⟨t :: (p1 ++ p2), by simp, fun r' f' hf => ?_, fun d hd => ?_⟩
          · obtain ⟨g, rfl⟩ : ∃ g, f' = g + 1 := ⟨f' - 1, by simp at hf; omega⟩
            have e : nnum rd D (p1 ++ p2 ++ r') = some (ys, p2 ++ r') := by rw [List.append_assoc]; exact a1 _
            rw [List.cons_append, npts_step h2 e]
            exact a2 r' g (by simp at hf; omega)
          · have s1 : stp (d + 1) t = d + 1 := stp_o (by rw [h2]; decide) (by rw [h2]; decide)
            refine Lev.cons (by rw [s1]; omega) ?_
            rw [s1]
            exact (b1 (d + 1) (by omega)).trans (b2 d hd)
      · rw [npts_bad h1 h2] at h
        cases h
theorem nline_lev {l r : List ByteArray} {xs : List Nat} (h : nline rd D l = some (xs, r)) : ∃ p, l = p ++ r ∧ (∀ r', nline rd D (p ++ r') = some (xs, r')) ∧ ∀ d : Int, 1 ≤ d → Lev p d d := by
  cases l with
  | nil => cases h
  | cons t l =>
    by_cases h1 : t = tEMPTY
    · rw [nline_em h1] at h
      injection h with h
      injection h with h2 h3
      subst h2 h3
      refine ⟨[t], rfl, fun r' => nline_em h1, fun d hd => ?_⟩
      have s1 : stp d t = d := stp_o (by rw [h1]; decide) (by rw [h1]; decide)
      refine Lev.cons (by rw [s1]; omega) ?_
      rw [s1]
      exact Lev.nil d
    · by_cases h2 : t = tLP
      · cases hn : nnum rd D l with
        | none => rw [nline_none h2 hn] at h; cases h
        | some z =>
          obtain ⟨ys, q⟩ := z
          rw [nline_some h2 hn] at h
          obtain ⟨p1, rfl, a1, b1⟩ := nnum_lev hL hR hn
          obtain ⟨p2, rfl, a2, b2⟩ := npts_lev hL hR h
          refine ⟨t :: (p1 ++ p2), by simp, fun r' => ?_, fun d hd => ?_⟩
          · have e : nnum rd D (p1 ++ p2 ++ r') = some (ys, p2 ++ r') := by rw [List.append_assoc]; exact a1 _
            rw [List.cons_append, nline_some h2 e]
            exact a2 r' _ (by simp; omega)
          · have s1 : stp d t = d + 1 := by rw [h2]; exact stp_l
            refine Lev.cons (by rw [s1]; omega) ?_
            rw [s1]
            exact (b1 (d + 1) (by omega)).trans (b2 d hd)
      · rw [nline_bad h1 h2] at h
        cases h
theorem nrings_lev : ∀ {f : Nat} {a xs : List (List Nat)} {l r : List ByteArray}, nrings rd D f a l = some (xs, r) → ∃ p, l = p ++ r ∧ (∀ r' f', p.length ≤ f' → nrings rd D f' a (p ++ r') = some (xs, r')) ∧ pbod 1 p = some p
  | 0, _, _, _, _, h => by cases h
  | _ + 1, _, _, [], _, h => by cases h
  | f + 1, a, xs, t :: l, r, h => by
    by_cases h1 : t = tRP
    · rw [nrings_rp h1] at h
      injection h with h
      injection h with h2 h3
      subst h2 h3
      refine ⟨[t], rfl, fun r' f' hf => ?_, ?_⟩
      · obtain ⟨g, rfl⟩ : ∃ g, f' = g + 1 := ⟨f' - 1, by simp at hf; omega⟩
        exact nrings_rp h1
      · exact pbod_zero (by rw [h1, stp_r]; omega)
    · by_cases h2 : t = tCM
      · cases hn : nline rd D l with
        | none => rw [nrings_none h2 hn] at h; cases h
        | some z =>
          obtain ⟨ys, q⟩ := z
          rw [nrings_step h2 hn] at h
          obtain ⟨p1, rfl, a1, b1⟩ := nline_lev hL hR hn
          obtain ⟨p2, rfl, a2, b2⟩ := nrings_lev h
          refine ⟨t :: (p1 ++ p2), by simp, fun r' f' hf => ?_, ?_⟩
          · obtain ⟨g, rfl⟩ : ∃ g, f' = g + 1 := ⟨f' - 1, by simp at hf; omega⟩
            have e : nline rd D (p1 ++ p2 ++ r') = some (ys, p2 ++ r') := by rw [List.append_assoc]; exact a1 _
            rw [List.cons_append, nrings_step h2 e]
            exact a2 r' g (by simp at hf; omega)
          · have s1 : stp 1 t = 1 := stp_o (by rw [h2]; decide) (by rw [h2]; decide)
            rw [pbod_more (by rw [s1]; omega), s1, b1 1 (by omega), b2]
            rfl
      · rw [nrings_bad h1 h2] at h
        cases h
theorem npoly_lev {l r : List ByteArray} {xs : List (List Nat)} (h : npoly rd D l = some (xs, r)) : ∃ p, l = p ++ r ∧ (∀ r', npoly rd D (p ++ r') = some (xs, r')) ∧ pbod 0 p = some p ∧ (p = [tEMPTY] ∨ 2 ≤ p.length) := by
  cases l with
  | nil => cases h
  | cons t l =>
    by_cases h1 : t = tEMPTY
    · rw [npoly_em h1] at h
      injection h with h
      injection h with h2 h3
      subst h2 h3
      exact ⟨[t], rfl, fun r' => npoly_em h1, pbod_zero (stp_o (by rw [h1]; decide) (by rw [h1]; decide)), .inl (by rw [h1])⟩
    · by_cases h2 : t = tLP
      · cases hn : nline rd D l with
        | none => rw [npoly_none h2 hn] at h; cases h
        | some z =>
          obtain ⟨ys, q⟩ := z
          rw [npoly_some h2 hn] at h
          obtain ⟨p1, rfl, a1, b1⟩ := nline_lev hL hR hn
          obtain ⟨p2, rfl, a2, b2⟩ := nrings_lev hL hR h
          refine ⟨t :: (p1 ++ p2), by simp, fun r' => ?_, ?_, .inr ?_⟩
          · have e : nline rd D (p1 ++ p2 ++ r') = some (ys, p2 ++ r') := by rw [List.append_assoc]; exact a1 _
            rw [List.cons_append, npoly_some h2 e]
            exact a2 r' _ (by simp; omega)
          · have s1 : stp 0 t = 1 := by rw [h2]; exact stp_l
            rw [pbod_more (by rw [s1]; omega), s1, b1 1 (by omega), b2]
            rfl
          · cases p2 with
            | nil => cases b2
            | cons a b => simp; omega
      · rw [npoly_bad h1 h2] at h
        cases h
end
/-- The body, as tokens; none: there is none. -/
def bodOk (l : List ByteArray) : Option (List ByteArray) := match pbod 0 l with
  | none => none
  | some p => if p.length = 1 ∧ p ≠ [tEMPTY] then none else some p
/-- The package's reading of the whole list is the reference's of the body. -/
theorem body_law {rd : ByteArray → Option Nat} {D : Nat} (hL : rd tLP = none) (hR : rd tRP = none) (l : List ByteArray) :
    (∀ xss r, npoly rd D l = some (xss, r) → ∃ p, bodOk l = some p ∧ npoly rd D p = some (xss, [])) ∧
    (∀ p xss, bodOk l = some p → npoly rd D p = some (xss, []) → ∃ r, npoly rd D l = some (xss, r)) := by
  constructor
  · intro xss r h
    obtain ⟨p, rfl, h1, h2, h3⟩ := npoly_lev hL hR h
    refine ⟨p, ?_, by have := h1 []; rwa [List.append_nil] at this⟩
    unfold bodOk
    rw [pbod_app r h2]
    simp only
    rw [if_neg]
    rintro ⟨h4, h5⟩
    rcases h3 with h3 | h3
    · exact h5 h3
    · omega
  · intro p xss hb hn
    obtain ⟨p1, e1, h1, h2, h3⟩ := npoly_lev hL hR hn
    rw [List.append_nil] at e1
    subst e1
    have hp : pbod 0 l = some p := by
      unfold bodOk at hb
      cases hl : pbod 0 l with
      | none => rw [hl] at hb; cases hb
      | some q =>
        rw [hl] at hb
        simp only at hb
        split at hb
        · cases hb
        · injection hb with hb
          rw [hb]
    obtain ⟨r, rfl⟩ := pbod_pre hp
    exact ⟨r, h1 r⟩
end Go.Proofs.YthfjakbpeclfcaaGreatDoor

namespace Go.Proofs.YthfjakbpeclfcaaGreatDoor
open Go.RowKit Go

def joinB (p : List ByteArray) : List UInt8 := p.flatMap fun t => t.data.toList ++ [32]
theorem joinB_snoc (p : List ByteArray) (t : ByteArray) : joinB (p ++ [t]) = joinB p ++ (t.data.toList ++ [32]) := by simp [joinB]
theorem joinT_B (p : List (Nat × ByteArray)) : joinT p = joinB (p.map (·.2)) := by simp [joinT, joinB, List.flatMap_map]
theorem joinB_len (l : List ByteArray) (k : Nat) (h : ∀ t ∈ l, t.size ≤ k) : (joinB l).length ≤ l.length * (k + 1) := by
  induction l with
  | nil => exact Nat.zero_le _
  | cons t l ih =>
    have h1 := ih (fun u hu => h u (by simp [hu]))
    have h2 := h t (by simp)
    have e : joinB (t :: l) = t.data.toList ++ [32] ++ joinB l := by simp [joinB]
    rw [e]
    simp only [List.length_append, List.length_cons, List.length_nil, slen, Nat.add_mul] at *
    omega
def bodOut (l : List ByteArray) (e : Ending) : Prop :=
  match bodOk l with
  | some p => e = .returned (.tuple #[.string ⟨(joinB p).toArray⟩, .bool true])
  | none => ∃ s, e = .returned (.tuple #[.string s, .bool false])
theorem bodOut_some {l p : List ByteArray} {e : Ending} (h : bodOk l = some p) (h2 : e = .returned (.tuple #[.string ⟨(joinB p).toArray⟩, .bool true])) : bodOut l e := by unfold bodOut; rw [h]; exact h2
theorem bodOut_none {l : List ByteArray} {e : Ending} (h : bodOk l = none) (h2 : ∃ s, e = .returned (.tuple #[.string s, .bool false])) : bodOut l e := by unfold bodOut; rw [h]; exact h2
theorem app_bytes (a b : List UInt8) : (⟨a.toArray⟩ : ByteArray) ++ ⟨b.toArray⟩ = ⟨(a ++ b).toArray⟩ := by
  apply Go.WideShapes.bytes_inj
  simp
theorem bytes_eta (t : ByteArray) : t = ⟨(t.data.toList).toArray⟩ := by cases t; simp

set_option maxHeartbeats 4000000 in
set_option maxRecDepth 100000 in
theorem bod_any (X : Nat) (l : List ByteArray) (v : Value) (w : World) (hown : w.ownsRow X 9 1 v l.length (strs l)) (hl : l.length ≤ 2000) (hs : ∀ t ∈ l, t.size ≤ 2000) :
    Calls Tryz.prog 7 #[v] w fun e w' => bodOut l e ∧ w' = w := by
  obtain ⟨ao, cp, rfl⟩ := ownsRow_slice hown
  have HO := Lib.hid hown
  have HS := Lib.hid hs
  clear hown hs
  go_enter Tryz.func7, Tryz.ntmps7
  go_wp2
  go_loopg [2, 4, 9] l.length (fun G s2 s4 s9 wr => ∃ (i : Nat) (d : Int), s9 = .int .i64 i ∧ i + G = l.length ∧ s4 = .int .i64 d ∧ -(i : Int) ≤ d ∧ d ≤ i ∧ (0 < i → d ≠ 0) ∧ s2 = .string ⟨(joinB (l.take i)).toArray⟩ ∧
    pbod 0 l = (pbod d (l.drop i)).map (l.take i ++ ·) ∧ wr = w)
  case atStart => exact ⟨0, 0, rfl, by omega, rfl, by omega, by omega, fun h => absurd h (Nat.lt_irrefl 0), rfl, by simp, rfl⟩
  case round =>
    obtain ⟨i, d, rfl, hi, rfl, hd1, hd2, hd0, rfl, hpb, rfl⟩ := hrel
    have HI := Lib.hid hi
    have HD0 := Lib.hid hd0
    have HPB := Lib.hid hpb
    clear hi hd0 hpb
    by_cases hlt : i < l.length
    · have hlt' : (i : Int) < l.length := by omega
      obtain ⟨t, ht⟩ : ∃ t, l[i]? = some t := ⟨_, List.getElem?_eq_getElem hlt⟩
      obtain ⟨g, cp', hform, hg1, hg2⟩ := HO.out.form (by omega)
      injection hform with hao hn hcp
      subst hao hcp
      have c0 := (HO.out.cellAt i (by omega)).trans (show (strs l)[i]? = some (.string t) by simp [strs, ht])
      have htake : l.take (i + 1) = l.take i ++ [t] := by rw [List.take_add_one, ht]; rfl
      have hdrop : l.drop i = t :: l.drop (i + 1) := by
        obtain ⟨h1, h2⟩ := List.getElem?_eq_some_iff.1 ht
        rw [List.drop_eq_getElem_cons h1, h2]
      have HTK := Lib.hid htake
      have HDR := Lib.hid hdrop
      have hls : (joinB (l.take i)).length ≤ 2000 * 2001 := by
        refine Nat.le_trans (joinB_len _ 2000 (fun u hu => HS.out u (List.mem_of_mem_take hu))) ?_
        have : (l.take i).length ≤ 2000 := by rw [List.length_take]; omega
        exact Nat.mul_le_mul_right _ this
      have hts : t.size ≤ 2000 := HS.out t (List.mem_of_getElem? ht)
      have hcat : (⟨(joinB (l.take i)).toArray⟩ : ByteArray) ++ (t ++ ⟨#[32]⟩) = ⟨(joinB (l.take (i + 1))).toArray⟩ := by
        rw [htake, joinB_snoc]
        conv => lhs; rw [bytes_eta t]
        rw [show (⟨#[32]⟩ : ByteArray) = ⟨([32] : List UInt8).toArray⟩ from rfl, app_bytes, app_bytes]
      clear ht htake hdrop
      have hfin : ∀ b : Bool, stp d t = 0 → (0 < i ∧ b = true ∨ i = 0 ∧ (if b then t = tEMPTY else t ≠ tEMPTY)) → bodOut l (.returned (.tuple #[.string ⟨(joinB (l.take (i + 1))).toArray⟩, .bool b])) := by
        intro b hz hb
        have hp : pbod 0 l = some (l.take (i + 1)) := by
          rw [HPB.out, HDR.out, pbod_zero hz, HTK.out]
          rfl
        have hlen : (l.take (i + 1)).length = i + 1 := by rw [List.length_take]; omega
        have hok : bodOk l = if (l.take (i + 1)).length = 1 ∧ l.take (i + 1) ≠ [tEMPTY] then none else some (l.take (i + 1)) := by
          unfold bodOk
          rw [hp]
        rcases hb with ⟨h1, rfl⟩ | ⟨h1, h2⟩
        · rw [if_neg (by rw [hlen]; omega)] at hok
          exact bodOut_some hok rfl
        · subst h1
          have e1 : l.take (0 + 1) = [t] := by rw [HTK.out]; rfl
          rw [e1] at hok ⊢
          cases b with
          | true =>
            rw [if_neg (by rw [show t = tEMPTY from h2]; simp)] at hok
            exact bodOut_some hok rfl
          | false =>
            rw [if_pos ⟨rfl, fun e => by injection e with e _; exact h2 e⟩] at hok
            exact bodOut_none hok ⟨_, rfl⟩
      have hstep : ∀ D, stp d t = D → D ≠ 0 → D ≠ 0 ∧ pbod 0 l = (pbod D (l.drop (i + 1))).map (l.take (i + 1) ++ ·) := by
        intro D h1 h2
        subst h1
        refine ⟨h2, ?_⟩
        rw [HPB.out, HDR.out, pbod_more h2, map_app, HTK.out]
      have HFIN := Lib.hid hfin
      have HSTEP := Lib.hid hstep
      clear hfin hstep
      by_cases h1 : t = tLP
      ·   have b1 : (t.toList == [40]) = true := str_eq h1 rfl
          have HT := Lib.hid h1
          have HSP := Lib.hid (show stp d t = d + 1 by rw [h1]; exact stp_l)
          clear h1
          have hfz : (d + 1) = 0 → stp d t = 0 := fun h => by rw [HSP.out]; exact h
          have HFZ := Lib.hid hfz
          clear hfz
          by_cases hz : (d + 1) = 0
          · have hz' : ((d + 1) == 0) = true := by simp; omega
            by_cases h0 : 0 < i
            · have h0' : (0 : Int) < i := by omega
              have HF := Lib.hid (HFIN.out true (HFZ.out hz) (.inl ⟨h0, rfl⟩))
              clear hz
              go_wp2
              refine bodyPost_ret (results_tmp2 rfl _ _ _) rfl ?_
              exact ⟨HF.out, rfl⟩
            · have h0' : ¬ (0 : Int) < i := by omega
              have hi0 : i = 0 := by omega
              have b3 : (t.toList == [69, 77, 80, 84, 89]) = false := str_ne (x := tEMPTY) (by rw [HT.out]; decide) rfl
              have HF := Lib.hid (HFIN.out false (HFZ.out hz) (.inr ⟨hi0, by rw [HT.out]; decide⟩))
              clear hz hi0
              go_wp2
              refine bodyPost_ret (results_tmp2 rfl _ _ _) rfl ?_
              exact ⟨HF.out, rfl⟩
          · have hz' : ((d + 1) == 0) = false := by simp; omega
            have HST := Lib.hid (HSTEP.out (d + 1) HSP.out hz)
            clear hz
            go_wp2
            go_roundg (gk - 1)
            case measure => have := HI.out; omega
            case rel => exact ⟨i + 1, (d + 1), by go_num, by have := HI.out; omega, rfl, by omega, by omega, fun _ => HST.out.1, rfl, HST.out.2, rfl⟩
      · by_cases h2 : t = tRP
        · have b1 : (t.toList == [40]) = false := str_ne h1 rfl
          have b2 : (t.toList == [41]) = true := str_eq h2 rfl
          have HT := Lib.hid h2
          have HSP := Lib.hid (show stp d t = d - 1 by rw [h2]; exact stp_r)
          clear h1 h2
          have hfz : (d - 1) = 0 → stp d t = 0 := fun h => by rw [HSP.out]; exact h
          have HFZ := Lib.hid hfz
          clear hfz
          by_cases hz : (d - 1) = 0
          · have hz' : ((d - 1) == 0) = true := by simp; omega
            by_cases h0 : 0 < i
            · have h0' : (0 : Int) < i := by omega
              have HF := Lib.hid (HFIN.out true (HFZ.out hz) (.inl ⟨h0, rfl⟩))
              clear hz
              go_wp2
              refine bodyPost_ret (results_tmp2 rfl _ _ _) rfl ?_
              exact ⟨HF.out, rfl⟩
            · have h0' : ¬ (0 : Int) < i := by omega
              have hi0 : i = 0 := by omega
              have b3 : (t.toList == [69, 77, 80, 84, 89]) = false := str_ne (x := tEMPTY) (by rw [HT.out]; decide) rfl
              have HF := Lib.hid (HFIN.out false (HFZ.out hz) (.inr ⟨hi0, by rw [HT.out]; decide⟩))
              clear hz hi0
              go_wp2
              refine bodyPost_ret (results_tmp2 rfl _ _ _) rfl ?_
              exact ⟨HF.out, rfl⟩
          · have hz' : ((d - 1) == 0) = false := by simp; omega
            have HST := Lib.hid (HSTEP.out (d - 1) HSP.out hz)
            clear hz
            go_wp2
            go_roundg (gk - 1)
            case measure => have := HI.out; omega
            case rel => exact ⟨i + 1, (d - 1), by go_num, by have := HI.out; omega, rfl, by omega, by omega, fun _ => HST.out.1, rfl, HST.out.2, rfl⟩
        · have b1 : (t.toList == [40]) = false := str_ne h1 rfl
          have b2 : (t.toList == [41]) = false := str_ne h2 rfl
          have HSP := Lib.hid (show stp d t = d from stp_o h1 h2)
          clear h1 h2
          have hfz : d = 0 → stp d t = 0 := fun h => by rw [HSP.out]; exact h
          have HFZ := Lib.hid hfz
          clear hfz
          by_cases hz : d = 0
          · have hz' : (d == 0) = true := by simp; omega
            by_cases h0 : 0 < i
            · have h0' : (0 : Int) < i := by omega
              have HF := Lib.hid (HFIN.out true (HFZ.out hz) (.inl ⟨h0, rfl⟩))
              clear hz
              go_wp2
              refine bodyPost_ret (results_tmp2 rfl _ _ _) rfl ?_
              exact ⟨HF.out, rfl⟩
            · have h0' : ¬ (0 : Int) < i := by omega
              have hi0 : i = 0 := by omega
              by_cases he : t = tEMPTY
              · have b3 : (t.toList == [69, 77, 80, 84, 89]) = true := str_eq he rfl
                have HF := Lib.hid (HFIN.out true (HFZ.out hz) (.inr ⟨hi0, he⟩))
                clear hz hi0 he
                go_wp2
                refine bodyPost_ret (results_tmp2 rfl _ _ _) rfl ?_
                exact ⟨HF.out, rfl⟩
              · have b3 : (t.toList == [69, 77, 80, 84, 89]) = false := str_ne he rfl
                have HF := Lib.hid (HFIN.out false (HFZ.out hz) (.inr ⟨hi0, he⟩))
                clear hz hi0 he
                go_wp2
                refine bodyPost_ret (results_tmp2 rfl _ _ _) rfl ?_
                exact ⟨HF.out, rfl⟩
          · have hz' : (d == 0) = false := by simp; omega
            have HST := Lib.hid (HSTEP.out d HSP.out hz)
            clear hz
            go_wp2
            go_roundg (gk - 1)
            case measure => have := HI.out; omega
            case rel => exact ⟨i + 1, d, by go_num, by have := HI.out; omega, rfl, by omega, by omega, fun _ => HST.out.1, rfl, HST.out.2, rfl⟩
    · have hlt' : ¬ (i : Int) < l.length := by omega
      have hno : bodOk l = none := by
        unfold bodOk
        rw [HPB.out, List.drop_of_length_le (by omega)]
        rfl
      have HNO := Lib.hid hno
      clear hno
      go_wp2
      refine bodyPost_ret (results_tmp2 rfl _ _ _) rfl ?_
      exact ⟨bodOut_none HNO.out ⟨_, rfl⟩, rfl⟩
end Go.Proofs.YthfjakbpeclfcaaGreatDoor
