import Derived.Test.Qxb6601198aDoorPlainD
import Derived.Test.Qxb6601198aDoorPlainC
namespace Go.Proofs.Qxb6601198aDoor
open Go.RowKit

theorem no_pre {c : UInt8} {l : List UInt8} (h : c.toNat ≠ 48) (x : UInt8) : ¬ Lib.hasPrefix (c :: l) [48, x] = true := by
  intro hh
  obtain ⟨t, ht⟩ := List.isPrefixOf_iff_prefix.mp hh
  simp at ht
  exact h (by rw [← ht.1]; rfl)

/-- A text with the sign ahead. -/
theorem signed_law {n sg : Nat} (hsg : sg = 0 ∨ sg = 1 ∨ sg = 2) {c : UInt8} {r : List UInt8} (hc : 48 ≤ c.toNat) (hu : u0 (c :: r) = some n) : modelG (signB sg ++ c :: r) = expI n sg := by
  have hs : sgn (signB sg ++ c :: r) = (sg, c :: r) := by
    rcases hsg with rfl | rfl | rfl
    · show sgn (c :: r) = _
      rw [sgn, if_neg (by omega), if_neg (by omega)]
    · rfl
    · rfl
  have hr : readAs u0 (sgn (signB sg ++ c :: r)) = expI n sg := by rw [hs, readAs_some (x := (sg, c :: r)) hu]
  cases hok : (expI n sg).2.2 with
  | true => rw [modelG_yes (by rw [hr]; exact hok), hr]
  | false =>
    rw [modelG_no (by rw [hr]; exact hok), expI_no hok]
    rcases hsg with rfl | rfl | rfl
    · exfalso
      rw [expI, if_pos rfl] at hok
      split at hok <;> simp at hok
    · show second (43 :: c :: r) = _
      rw [second, if_neg (no_pre (by decide) _), if_neg (no_pre (by decide) _)]
    · show second (45 :: c :: r) = _
      rw [second, if_neg (no_pre (by decide) _), if_neg (no_pre (by decide) _)]

theorem u0_pre (b : Nat) (x : UInt8) (hx : (b = 2 ∧ (x.toNat ||| 32) = 98) ∨ (b = 8 ∧ (x.toNat ||| 32) = 111) ∨ (b = 16 ∧ (x.toNat ||| 32) = 120)) (c : UInt8) (r : List UInt8) : u0 (48 :: x :: c :: r) = pu b 0 (c :: r) := by
  have h48 : (48 : UInt8).toNat = 48 := rfl
  rw [u0, eff, if_pos h48]
  rcases hx with ⟨rfl, h⟩ | ⟨rfl, h⟩ | ⟨rfl, h⟩ <;> simp [h]

/-- THE PLAIN LAW of FnIntegerReadsEveryRendering. -/
theorem rend_law (u sg fm : Nat) (hu : u < 18446744073709551616) (hsg : sg = 0 ∨ sg = 1 ∨ sg = 2) (hfm : fm < 10) : modelG (rend sg u fm) = expI u sg := by
  have h64 : u < 2 ^ (63 + 1) := Nat.lt_of_lt_of_le hu (by decide)
  have P2 := pu_rdf 2 (by omega) (by omega) false 63 u h64 hu
  have P8 := pu_rdf 8 (by omega) (by omega) false 63 u h64 hu
  have P10 := pu_rdf 10 (by omega) (by omega) false 63 u h64 hu
  have P16 := pu_rdf 16 (by omega) (by omega) false 63 u h64 hu
  have P16u := pu_rdf 16 (by omega) (by omega) true 63 u h64 hu
  have base : ∀ (b : Nat) (up : Bool) (x : UInt8), ((b = 2 ∧ (x.toNat ||| 32) = 98) ∨ (b = 8 ∧ (x.toNat ||| 32) = 111) ∨ (b = 16 ∧ (x.toNat ||| 32) = 120)) → pu b 0 (rdf b up 64 u) = some u → modelG (signB sg ++ [48, x] ++ rdf b up 64 u) = expI u sg := by
    intro b up x hx hp
    obtain ⟨c, r, hD⟩ := rdf_cons b up 63 u
    have hD' : rdf b up 64 u = c :: r := hD
    rw [hD'] at hp ⊢
    have := signed_law (n := u) hsg (c := 48) (r := x :: c :: r) (by decide) (by rw [u0_pre b x hx, hp])
    simpa using this
  have front : ∀ (b : Nat) (x : UInt8), ((b = 2 ∧ x = 98) ∨ (b = 8 ∧ x = 111)) → pu b 0 (rdf b false 64 u) = some u → modelG ([48, x] ++ signB sg ++ rdf b false 64 u) = expI u sg := by
    intro b x hx hp
    have hx' : (b = 2 ∧ (x.toNat ||| 32) = 98) ∨ (b = 8 ∧ (x.toNat ||| 32) = 111) ∨ (b = 16 ∧ (x.toNat ||| 32) = 120) := by
      rcases hx with ⟨rfl, rfl⟩ | ⟨rfl, rfl⟩
      · exact .inl ⟨rfl, by decide⟩
      · exact .inr (.inl ⟨rfl, by decide⟩)
    have hb16 : b ≤ 16 := by omega
    rcases hsg with rfl | rfl | rfl
    · have := base b false x hx' hp
      simpa [signB] using this
    all_goals
      obtain ⟨c, r, hD⟩ := rdf_cons b false 63 u
      have hD' : rdf b false 64 u = c :: r := hD
      rw [hD'] at hp ⊢
    · show modelG (48 :: x :: 43 :: c :: r) = _
      have h0 : u0 (48 :: x :: 43 :: c :: r) = none := by
        rw [u0_pre b x hx', pu_bad (by show b ≤ dv 43; exact Nat.le_trans hb16 (by decide))]
      have hs : sgn (48 :: x :: 43 :: c :: r) = (0, 48 :: x :: 43 :: c :: r) := rfl
      have hsnd : second (48 :: x :: 43 :: c :: r) = readAs (ub b) (sgn (43 :: c :: r)) := by
        rcases hx with ⟨rfl, rfl⟩ | ⟨rfl, rfl⟩ <;> rfl
      rw [modelG_no (by rw [hs, readAs_none (x := (0, _)) h0]), hsnd]
      exact readAs_some (f := ub b) (x := (1, c :: r)) hp
    · show modelG (48 :: x :: 45 :: c :: r) = _
      have h0 : u0 (48 :: x :: 45 :: c :: r) = none := by
        rw [u0_pre b x hx', pu_bad (by show b ≤ dv 45; exact Nat.le_trans hb16 (by decide))]
      have hs : sgn (48 :: x :: 45 :: c :: r) = (0, 48 :: x :: 45 :: c :: r) := rfl
      have hsnd : second (48 :: x :: 45 :: c :: r) = readAs (ub b) (sgn (45 :: c :: r)) := by
        rcases hx with ⟨rfl, rfl⟩ | ⟨rfl, rfl⟩ <;> rfl
      rw [modelG_no (by rw [hs, readAs_none (x := (0, _)) h0]), hsnd]
      exact readAs_some (f := ub b) (x := (2, c :: r)) hp
  rcases (show fm = 0 ∨ fm = 1 ∨ fm = 2 ∨ fm = 3 ∨ fm = 4 ∨ fm = 5 ∨ fm = 6 ∨ fm = 7 ∨ fm = 8 ∨ fm = 9 from by omega) with rfl | rfl | rfl | rfl | rfl | rfl | rfl | rfl | rfl | rfl
  · show modelG (signB sg ++ rdf 10 false 64 u) = _
    by_cases hz : u = 0
    · subst hz
      have : rdf 10 false 64 0 = [48] := by rfl
      rw [this]
      exact signed_law hsg (by decide) (by rfl)
    · obtain ⟨c, r, hD, hc⟩ := rdf_head 10 (by omega) (by omega) false 63 u (by omega) h64
      have hD' : rdf 10 false 64 u = c :: r := hD
      have hm := (rdf_mem 10 (by omega) (by omega) false 64 u c (by rw [hD']; simp)).1
      have hP : pu 10 0 (rdf 10 false 64 u) = some u := P10
      rw [hD'] at hP ⊢
      refine signed_law hsg (by omega) ?_
      have he : eff (c :: r) = (10, c :: r) := by
        cases r with
        | nil => simp [eff, hc]
        | cons c1 r => cases r <;> simp [eff, hc]
      rw [u0, he]
      exact hP
  · exact base 16 false 120 (.inr (.inr ⟨rfl, by decide⟩)) P16
  · exact base 16 true 88 (.inr (.inr ⟨rfl, by decide⟩)) P16u
  · exact base 8 false 111 (.inr (.inl ⟨rfl, by decide⟩)) P8
  · exact base 8 false 79 (.inr (.inl ⟨rfl, by decide⟩)) P8
  · exact base 2 false 98 (.inl ⟨rfl, by decide⟩) P2
  · exact base 2 false 66 (.inl ⟨rfl, by decide⟩) P2
  · show modelG (signB sg ++ [48] ++ rdf 8 false 64 u) = _
    obtain ⟨c, r, hD⟩ := rdf_cons 8 false 63 u
    have hD' : rdf 8 false 64 u = c :: r := hD
    have hm := (rdf_mem 8 (by omega) (by omega) false 64 u c (by rw [hD']; simp))
    have hP : pu 8 0 (rdf 8 false 64 u) = some u := P8
    rw [hD'] at hP ⊢
    have h32 := or32b ⟨c.toNat, c.toNat_lt⟩
    simp only at h32
    have h55 := hm.2 (by omega)
    have he : eff (48 :: c :: r) = (8, c :: r) := by
      have h48 : (48 : UInt8).toNat = 48 := rfl
      cases r with
      | nil => simp [eff]
      | cons c2 r2 =>
        rw [eff, if_pos h48]
        simp only [h32.1, h32.2.1, h32.2.2]
        rw [if_neg (by omega), if_neg (by omega), if_neg (by omega)]
    have := signed_law (n := u) hsg (c := 48) (r := c :: r) (by decide) (by rw [u0, he]; exact hP)
    simpa using this
  · exact front 2 98 (.inl ⟨rfl, rfl⟩) P2
  · exact front 8 111 (.inr ⟨rfl, rfl⟩) P8

theorem signB_mem {sg : Nat} {c : UInt8} (h : c ∈ signB sg) : c.toNat = 43 ∨ c.toNat = 45 := by
  match sg, h with
  | 0, h => simp [signB] at h
  | 1, h => simp [signB] at h; exact .inl (by rw [h]; rfl)
  | _ + 2, h => simp [signB] at h; exact .inr (by rw [h]; rfl)

theorem rend_us (sg u fm : Nat) : ∀ c ∈ rend sg u fm, c.toNat ≠ 95 := by
  have hr : ∀ (b : Nat) (up : Bool), 2 ≤ b → b ≤ 16 → ∀ c ∈ rdf b up 64 u, c.toNat ≠ 95 := fun b up h h' c hc => by
    have := (rdf_mem b h h' up 64 u c hc).1
    omega
  have hs : ∀ c ∈ signB sg, c.toNat ≠ 95 := fun c hc => by have := signB_mem hc; omega
  have hp : ∀ (p : List UInt8), p ∈ [[48, 120], [48, 88], [48, 111], [48, 79], [48, 98], [48, 66], [(48 : UInt8)]] → ∀ c ∈ p, c.toNat ≠ 95 := by decide
  intro c hc
  unfold rend at hc
  split at hc
  all_goals
    simp only [List.mem_append] at hc
  · rcases hc with h | h
    · exact hs c h
    · exact hr _ _ (by omega) (by omega) c h
  all_goals
    rcases hc with (h | h) | h
    · first | exact hs c h | exact hp _ (by decide) c h
    · first | exact hs c h | exact hp _ (by decide) c h
    · exact hr _ _ (by omega) (by omega) c h

theorem signB_len (sg : Nat) : (signB sg).length ≤ 1 := by
  match sg with
  | 0 => simp [signB]
  | 1 => simp [signB]
  | _ + 2 => simp [signB]
theorem rend_len (sg u fm : Nat) : (rend sg u fm).length ≤ 70 := by
  have hs := signB_len sg
  have h := fun b up => rdf_length b up 64 u
  unfold rend
  split
  all_goals
    simp only [List.length_append, List.length_cons, List.length_nil]
  · have := h 10 false; omega
  · have := h 16 false; omega
  · have := h 16 true; omega
  · have := h 8 false; omega
  · have := h 8 false; omega
  · have := h 2 false; omega
  · have := h 2 false; omega
  · have := h 8 false; omega
  · have := h 2 false; omega
  · have := h 8 false; omega

end Go.Proofs.Qxb6601198aDoor
