import Derived.Test.Qxb6601198aDoorWalkF
namespace Go.Proofs.Qxb6601198aDoor
open Go.RowKit

/-- No sign is a digit. -/
def NoSign (f : List UInt8 → Option Nat) : Prop := f [] = none ∧ ∀ c r, (c.toNat = 43 ∨ c.toNat = 45) → f (c :: r) = none

theorem noSign_ub (b : Nat) (hb : b ≤ 16) : NoSign (ub b) := by
  refine ⟨rfl, ?_⟩
  intro c r h
  have hd : dv c.toNat = 255 := by rcases h with h | h <;> rw [h] <;> rfl
  rw [ub, pu_bad (by omega)]
theorem noSign_u0 : NoSign u0 := by
  refine ⟨rfl, ?_⟩
  intro c r h
  have hd : dv c.toNat = 255 := by rcases h with h | h <;> rw [h] <;> rfl
  have he : eff (c :: r) = (10, c :: r) := by
    have h48 : ¬ c.toNat = 48 := by omega
    cases r with
    | nil => simp [eff, h48]
    | cons c1 r => cases r <;> simp [eff, h48]
  rw [u0, he, pu_bad (by omega)]

def gen (f : List UInt8 → Option Nat) (l : List UInt8) (els : Int × Nat × Bool) : Int × Nat × Bool := match pI f l with
  | some i => (i, 0, true)
  | none => match f l with
    | some u => (0, u, true)
    | none => els

theorem expI_no {m sg : Nat} (h : (expI m sg).2.2 = false) : expI m sg = (0, 0, false) := by
  revert h
  unfold expI
  split
  · split <;> intro h <;> simp at h
  · split
    · split
      · intro h; simp at h
      · intro _; rfl
    · split
      · intro h; simp at h
      · intro _; rfl
theorem readAs_no {f : List UInt8 → Option Nat} {x : Nat × List UInt8} (h : (readAs f x).2.2 = false) : readAs f x = (0, 0, false) := by
  cases hf : f x.2 with
  | none => exact readAs_none hf
  | some m =>
    rw [readAs_some hf] at h ⊢
    exact expI_no h

theorem gen_eq {f : List UInt8 → Option Nat} (hf : NoSign f) (l : List UInt8) (els : Int × Nat × Bool) :
    gen f l els = if (readAs f (sgn l)).2.2 = true then readAs f (sgn l) else els := by
  cases l with
  | nil =>
    have h1 : gen f [] els = els := by simp only [gen, pI, hf.1]
    have h2 : readAs f (sgn []) = (0, 0, false) := readAs_none hf.1
    rw [h1, h2]
    rfl
  | cons c r =>
    by_cases hp : c.toNat = 43
    · have hs : sgn (c :: r) = (1, r) := by rw [sgn, if_pos hp]
      have hi : pI f (c :: r) = small (f r) := by rw [pI, if_pos hp]
      have hn := hf.2 c r (.inl hp)
      rw [hs]
      simp only [gen, hi, hn]
      cases hfr : f r with
      | none => rw [readAs_none (x := (1, r)) hfr]; rfl
      | some m =>
        rw [readAs_some (x := (1, r)) hfr]
        by_cases hm : m < 9223372036854775808
        · have h1 : small (some m) = some (m : Int) := by rw [small, if_pos hm]
          have h2 : expI m 1 = ((m : Int), 0, true) := by rw [expI, if_neg (by omega), if_pos rfl, if_pos hm]
          rw [h1, h2]; rfl
        · have h1 : small (some m) = none := by rw [small, if_neg hm]
          have h2 : expI m 1 = (0, 0, false) := by rw [expI, if_neg (by omega), if_pos rfl, if_neg hm]
          rw [h1, h2]; rfl
    · by_cases hq : c.toNat = 45
      · have hs : sgn (c :: r) = (2, r) := by rw [sgn, if_neg hp, if_pos hq]
        have hi : pI f (c :: r) = smallNeg (f r) := by rw [pI, if_neg hp, if_pos hq]
        have hn := hf.2 c r (.inr hq)
        rw [hs]
        simp only [gen, hi, hn]
        cases hfr : f r with
        | none => rw [readAs_none (x := (2, r)) hfr]; rfl
        | some m =>
          rw [readAs_some (x := (2, r)) hfr]
          by_cases hm : m ≤ 9223372036854775808
          · have h1 : smallNeg (some m) = some (-(m : Int)) := by rw [smallNeg, if_pos hm]
            have h2 : expI m 2 = (-(m : Int), 0, true) := by rw [expI, if_neg (by omega), if_neg (by omega), if_pos hm]
            rw [h1, h2]; rfl
          · have h1 : smallNeg (some m) = none := by rw [smallNeg, if_neg hm]
            have h2 : expI m 2 = (0, 0, false) := by rw [expI, if_neg (by omega), if_neg (by omega), if_neg hm]
            rw [h1, h2]; rfl
      · have hs : sgn (c :: r) = (0, c :: r) := by rw [sgn, if_neg hp, if_neg hq]
        have hi : pI f (c :: r) = small (f (c :: r)) := by rw [pI, if_neg hp, if_neg hq]
        rw [hs]
        simp only [gen, hi]
        cases hfr : f (c :: r) with
        | none => rw [readAs_none (x := (0, c :: r)) hfr]; rfl
        | some m =>
          rw [readAs_some (x := (0, c :: r)) hfr]
          by_cases hm : m < 9223372036854775808
          · have h1 : small (some m) = some (m : Int) := by rw [small, if_pos hm]
            have h2 : expI m 0 = ((m : Int), 0, true) := by rw [expI, if_pos rfl, if_pos hm]
            rw [h1, h2]; rfl
          · have h1 : small (some m) = none := by rw [small, if_neg hm]
            have h2 : expI m 0 = (0, m, true) := by rw [expI, if_pos rfl, if_neg hm]
            rw [h1, h2]; rfl

theorem after_eq (b : Nat) (hb : b ≤ 16) (l : List UInt8) : after b l (0, 0, false) = readAs (ub b) (sgn l) := by
  have h : after b l (0, 0, false) = gen (ub b) l (0, 0, false) := rfl
  rw [h, gen_eq (noSign_ub b hb)]
  split
  · rfl
  · rename_i hn
    exact (readAs_no (Bool.eq_false_iff.mpr hn)).symm

theorem not_both {l : List UInt8} (h : Lib.hasPrefix l [48, 98] = true) : ¬ Lib.hasPrefix l [48, 111] = true := by
  intro h'
  obtain ⟨t, ht⟩ := List.isPrefixOf_iff_prefix.mp h
  obtain ⟨t', ht'⟩ := List.isPrefixOf_iff_prefix.mp h'
  rw [← ht] at ht'
  simp at ht'

theorem part1_eq (l : List UInt8) : part1 l = second l := by
  rw [part1, part2, second]
  by_cases hb : Lib.hasPrefix l [48, 98] = true
  · rw [if_pos hb, if_pos hb, if_neg (not_both hb), after_eq 2 (by omega)]
  · rw [if_neg hb, if_neg hb]
    by_cases ho : Lib.hasPrefix l [48, 111] = true
    · rw [if_pos ho, if_pos ho, after_eq 8 (by omega)]
    · rw [if_neg ho, if_neg ho]

/-- THE PLAIN LAW of FnIntegerMatchesGrammar. -/
theorem intG_eq (l : List UInt8) : intG l = modelG l := by
  have h : intG l = gen u0 l (part1 l) := rfl
  rw [h, gen_eq noSign_u0, modelG, part1_eq]

end Go.Proofs.Qxb6601198aDoor
