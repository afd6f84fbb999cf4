/-
  Seat b6000630a: greedy first occurrences against all placements. No Go in sight.
-/
import Derived.Lib.CutLaws
namespace Go.Proofs.Qxb6000630a.Wild
open Go

/-- p occurs in S at q. -/
def eqAt (S : List UInt8) (q : Nat) (p : List UInt8) : Bool := decide (q + p.length ≤ S.length) && p.isPrefixOf (S.drop q)

theorem eqAt_iff (S : List UInt8) (q : Nat) (p : List UInt8) : eqAt S q p = true ↔ q + p.length ≤ S.length ∧ p <+: S.drop q := by
  simp [eqAt, List.isPrefixOf_iff_prefix]

/-- some r ≤ q is in R -/
def seen (R : Nat → Bool) : Nat → Bool
  | 0 => R 0
  | q + 1 => seen R q || R (q + 1)

theorem seen_iff (R : Nat → Bool) (q : Nat) : seen R q = true ↔ ∃ r, r ≤ q ∧ R r = true := by
  induction q with
  | zero => simp [seen]
  | succ q ih =>
    simp only [seen, Bool.or_eq_true, ih]
    constructor
    · rintro (⟨r, h1, h2⟩ | h)
      · exact ⟨r, by omega, h2⟩
      · exact ⟨q + 1, Nat.le_refl _, h⟩
    · rintro ⟨r, h1, h2⟩
      by_cases e : r = q + 1
      · right; rw [← e]; exact h2
      · left; exact ⟨r, by omega, h2⟩

/-- one round of the model: where the parts so far can end -/
def step (S : List UInt8) (R : Nat → Bool) (part : List UInt8) (x : Nat) : Bool :=
  decide (part.length ≤ x) && (seen R (x - part.length) && eqAt S (x - part.length) part)

theorem step_iff (S : List UInt8) (R : Nat → Bool) (part : List UInt8) (x : Nat) : step S R part x = true ↔ ∃ q r, r ≤ q ∧ R r = true ∧ eqAt S q part = true ∧ x = q + part.length := by
  simp only [step, Bool.and_eq_true, decide_eq_true_eq, seen_iff]
  constructor
  · rintro ⟨h, ⟨r, h1, h2⟩, h3⟩
    exact ⟨x - part.length, r, h1, h2, h3, by omega⟩
  · rintro ⟨q, r, h1, h2, h3, rfl⟩
    have e : q + part.length - part.length = q := by omega
    rw [e]
    exact ⟨by omega, ⟨r, h1, h2⟩, h3⟩

/-- the places at which the first j + 1 parts can end -/
def reach (S : List UInt8) (L : Nat → List UInt8) : Nat → Nat → Bool
  | 0 => fun x => x == (L 0).length
  | j + 1 => step S (reach S L j) (L (j + 1))

/-- the place at which greedy search ends the first j + 1 parts, within the first 'start' bytes -/
def gpos (S : List UInt8) (L : Nat → List UInt8) (start : Nat) : Nat → Option Nat
  | 0 => some (L 0).length
  | j + 1 => match gpos S L start j with
    | none => none
    | some p => if Lib.index ((S.drop p).take (start - p)) (L (j + 1)) < 0 then none else some (p + (Lib.index ((S.drop p).take (start - p)) (L (j + 1))).toNat + (L (j + 1)).length)

theorem gpos_none {S : List UInt8} {L : Nat → List UInt8} {start j : Nat} (h : gpos S L start j = none) : ∀ m, gpos S L start (j + m) = none
  | 0 => h
  | m + 1 => by
    rw [← Nat.add_assoc, gpos, gpos_none h m]

/-- an occurrence in the middle piece -/
theorem occ_mid (S part : List UInt8) (p start i : Nat) (hp : p ≤ start) (hs : start ≤ S.length) (hi : i ≤ start - p) :
    Lib.occAt ((S.drop p).take (start - p)) part i = true ↔ p + i + part.length ≤ start ∧ eqAt S (p + i) part = true := by
  unfold Lib.occAt
  rw [List.isPrefixOf_iff_prefix, eqAt_iff, List.drop_take, List.drop_drop]
  have e : i + p = p + i := by omega
  constructor
  · intro h
    have hl := h.length_le
    rw [List.length_take, List.length_drop] at hl
    refine ⟨by omega, by omega, ?_⟩
    exact h.trans (List.take_prefix _ _)
  · rintro ⟨h1, h2, h3⟩
    rw [List.prefix_iff_eq_take] at h3 ⊢
    rw [List.take_take]
    have e2 : min part.length (start - p - i) = part.length := by omega
    rw [e2]; exact h3

/-- where the greedy search stands against all placements -/
theorem inv (S : List UInt8) (L : Nat → List UInt8) (start : Nat) (hs : start ≤ S.length) (h0 : (L 0).length ≤ start) : ∀ j,
    (∃ p, gpos S L start j = some p ∧ p ≤ start ∧ reach S L j p = true ∧ ∀ x, reach S L j x = true → p ≤ x) ∨ (gpos S L start j = none ∧ ∀ x, reach S L j x = true → start < x)
  | 0 => .inl ⟨(L 0).length, rfl, h0, by simp [reach], fun x hx => by simp [reach] at hx; omega⟩
  | j + 1 => by
    rcases inv S L start hs h0 j with ⟨p, h1, h2, h3, h4⟩ | ⟨h1, h2⟩
    · have hlen : ((S.drop p).take (start - p)).length = start - p := by rw [List.length_take, List.length_drop]; omega
      rcases Lib.index_spec ((S.drop p).take (start - p)) (L (j + 1)) with ⟨hi, hn⟩ | ⟨i, hi, hil, ho, hno⟩
      · right
        refine ⟨by rw [gpos, h1]; simp only []; rw [hi, if_pos (by omega)], fun x hx => ?_⟩
        rw [reach, step_iff] at hx
        obtain ⟨q, r, h5, h6, h7, rfl⟩ := hx
        have h8 := h4 r h6
        rcases Nat.lt_or_ge start (q + (L (j + 1)).length) with h9 | h9
        · exact h9
        · exfalso
          have h10 := (occ_mid S (L (j + 1)) p start (q - p) h2 hs (by omega)).2 ⟨by omega, by rw [show p + (q - p) = q by omega]; exact h7⟩
          rw [hn (q - p) (by rw [hlen]; omega)] at h10
          exact absurd h10 (by simp)
      · left
        rw [hlen] at hil
        obtain ⟨h5, h6⟩ := (occ_mid S (L (j + 1)) p start i h2 hs hil).1 ho
        refine ⟨p + i + (L (j + 1)).length, ?_, h5, ?_, fun x hx => ?_⟩
        · rw [gpos, h1]; simp only []; rw [hi, if_neg (by omega)]; simp
        · rw [reach, step_iff]
          exact ⟨p + i, p, by omega, h3, h6, rfl⟩
        · rw [reach, step_iff] at hx
          obtain ⟨q, r, h7, h8, h9, rfl⟩ := hx
          have h10 := h4 r h8
          rcases Nat.lt_or_ge q (p + i) with h11 | h11
          · exfalso
            have h12 := (occ_mid S (L (j + 1)) p start (q - p) h2 hs (by omega)).2 ⟨by omega, by rw [show p + (q - p) = q by omega]; exact h9⟩
            have h13 := hno (q - p) (by omega)
            rw [h13] at h12
            exact absurd h12 (by simp)
          · omega
    · right
      refine ⟨by rw [gpos, h1], fun x hx => ?_⟩
      rw [reach, step_iff] at hx
      obtain ⟨q, r, h5, h6, h7, rfl⟩ := hx
      have := h2 r h6
      omega

/-- whatever is reached lies behind the first part -/
theorem reach_ge (S : List UInt8) (L : Nat → List UInt8) : ∀ j x, reach S L j x = true → (L 0).length ≤ x
  | 0, x, h => by simp [reach] at h; omega
  | j + 1, x, h => by
    rw [reach, step_iff] at h
    obtain ⟨q, r, h1, h2, _, rfl⟩ := h
    have := reach_ge S L j r h2
    omega

/-- what match answers, of n parts -/
def matchB (S : List UInt8) (L : Nat → List UInt8) (n : Nat) : Bool :=
  decide ((L 0).length + (L (n - 1)).length ≤ S.length) && (Lib.hasPrefix S (L 0) && (Lib.hasSuffix S (L (n - 1)) && (gpos S L (S.length - (L (n - 1)).length) (n - 2)).isSome))

/-- what the model answers -/
def modelB (S : List UInt8) (L : Nat → List UInt8) (n : Nat) : Bool :=
  eqAt S 0 (L 0) && (decide ((L (n - 1)).length ≤ S.length) && (eqAt S (S.length - (L (n - 1)).length) (L (n - 1)) && seen (reach S L (n - 2)) (S.length - (L (n - 1)).length)))

theorem suffix_iff (S p : List UInt8) (h : p.length ≤ S.length) : Lib.hasSuffix S p = eqAt S (S.length - p.length) p := by
  rw [Bool.eq_iff_iff, eqAt_iff]
  unfold Lib.hasSuffix
  rw [List.isSuffixOf_iff_suffix]
  constructor
  · intro hs
    have := List.suffix_iff_eq_drop.1 hs
    exact ⟨by omega, by rw [← this]; exact List.prefix_rfl⟩
  · rintro ⟨_, h2⟩
    have h3 := List.prefix_iff_eq_take.1 h2
    rw [List.take_of_length_le (by rw [List.length_drop]; omega)] at h3
    rw [h3]; exact List.drop_suffix _ _

theorem prefix_iff (S p : List UInt8) : Lib.hasPrefix S p = eqAt S 0 p := by
  rw [Bool.eq_iff_iff, eqAt_iff]
  unfold Lib.hasPrefix
  rw [List.isPrefixOf_iff_prefix, List.drop_zero]
  constructor
  · intro h; exact ⟨by have := h.length_le; omega, h⟩
  · rintro ⟨_, h⟩; exact h

theorem agree (S : List UInt8) (L : Nat → List UInt8) (n : Nat) : matchB S L n = modelB S L n := by
  unfold matchB modelB
  by_cases h1 : (L (n - 1)).length ≤ S.length
  · by_cases h2 : (L 0).length + (L (n - 1)).length ≤ S.length
    · rw [prefix_iff, suffix_iff S _ h1]
      have e : (gpos S L (S.length - (L (n - 1)).length) (n - 2)).isSome = seen (reach S L (n - 2)) (S.length - (L (n - 1)).length) := by
        rw [Bool.eq_iff_iff, seen_iff]
        rcases inv S L (S.length - (L (n - 1)).length) (by omega) (by omega) (n - 2) with ⟨p, h3, h4, h5, _⟩ | ⟨h3, h4⟩
        · rw [h3]; simp only [Option.isSome_some, true_iff]; exact ⟨p, h4, h5⟩
        · rw [h3]
          constructor
          · intro h; simp at h
          · rintro ⟨r, h5, h6⟩
            have := h4 r h6; omega
      rw [e, decide_eq_true h2, decide_eq_true h1]; simp
    · have e : seen (reach S L (n - 2)) (S.length - (L (n - 1)).length) = false := by
        rw [Bool.eq_false_iff]
        intro h
        obtain ⟨r, h3, h4⟩ := (seen_iff _ _).1 h
        have := reach_ge S L _ r h4
        omega
      rw [e, decide_eq_false h2]; simp
  · rw [decide_eq_false h1, decide_eq_false (by omega)]; simp

end Go.Proofs.Qxb6000630a.Wild
