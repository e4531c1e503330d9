import Derived.Test.Qxb6601198aDoorLawC0
import Derived.Test.Qxb6601198aDoorPlainC
namespace Go.Proofs.Qxb6601198aDoor
open Go.RowKit

theorem u0_nonneg {D : List UInt8} (h : Nonneg D) : u0 D = pu 10 0 D := by
  rcases h with rfl | ⟨c, r, rfl, h0, h1, hr⟩
  · rfl
  · have h48 : ¬ c.toNat = 48 := by omega
    have he : eff (c :: r) = (10, c :: r) := by
      cases r with
      | nil => simp [eff, h48]
      | cons c1 r => cases r <;> simp [eff, h48]
    rw [u0, he]

theorem second_split {l D : List UInt8} {sg : Nat} (h : Split l sg D) : second l = (0, 0, false) := by
  have key : ∀ c r, (c.toNat ≠ 48 ∨ r = []) → second (c :: r) = (0, 0, false) := by
    intro c r hc
    rcases hc with hc | rfl
    · have : ∀ x, ¬ Lib.hasPrefix (c :: r) [48, x] = true := by
        intro x hh
        obtain ⟨t, ht⟩ := List.isPrefixOf_iff_prefix.mp hh
        simp at ht
        exact hc (by rw [← ht.1]; rfl)
      rw [second, if_neg (this _), if_neg (this _)]
    · have : ∀ x, ¬ Lib.hasPrefix [c] [48, x] = true := by
        intro x hh
        have := (List.isPrefixOf_iff_prefix.mp hh).length_le
        simp at this
      rw [second, if_neg (this _), if_neg (this _)]
  obtain ⟨⟨rfl, rfl⟩ | ⟨rfl, rfl⟩, hn⟩ := h
  · rcases hn with rfl | ⟨c, r, rfl, h0, h1, hr⟩
    · exact key _ _ (.inr rfl)
    · exact key _ _ (.inl (by omega))
  · exact key _ _ (.inl (by decide))

theorem sgn_split {l D : List UInt8} {sg : Nat} (h : Split l sg D) : sgn l = (sg, D) := by
  obtain ⟨⟨rfl, rfl⟩ | ⟨rfl, rfl⟩, hn⟩ := h
  · obtain ⟨c, r, rfl, hc⟩ := nonneg_head hn
    rw [sgn, if_neg (by omega), if_neg (by omega)]
  · rfl

/-- THE PLAIN LAW of FnPlainIntegerWordsReadAsDecimal. -/
theorem split_law {l D : List UInt8} {sg : Nat} (h : Split l sg D) : modelG l = match pu 10 0 D with
    | some v => expI v sg
    | none => (0, 0, false) := by
  have hu := u0_nonneg h.2
  cases hp : pu 10 0 D with
  | none =>
    rw [hp] at hu
    have hr : readAs u0 (sgn l) = (0, 0, false) := by rw [sgn_split h]; exact readAs_none hu
    rw [modelG_no (by rw [hr]), second_split h]
  | some v =>
    rw [hp] at hu
    have hr : readAs u0 (sgn l) = expI v sg := by rw [sgn_split h]; exact readAs_some (x := (sg, D)) hu
    cases hok : (expI v sg).2.2 with
    | true => rw [modelG_yes (by rw [hr]; exact hok), hr]
    | false => rw [modelG_no (by rw [hr]; exact hok), second_split h]; exact (expI_no hok).symm

theorem callees : Callees expI modelG Gl where
  below := fun _ _ h hb => h.below hb
  exp := fun m sg hm hsg W => exp10 m sg hm hsg W
  int := fun s hs hus W hG => by
    have h := zzInteger11 s hs hus W hG
    rw [intG_eq] at h
    exact h
  law := fun l sg D h => split_law h

end Go.Proofs.Qxb6601198aDoor
