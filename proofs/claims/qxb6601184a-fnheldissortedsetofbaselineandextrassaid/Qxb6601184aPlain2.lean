import Derived.Test.Qxb6601184aPlain
import Derived.Lib.SlicesCompact
namespace Go.Proofs.Qxb6601184a
open Go.Lib

theorem lst_lt_of {x y : List UInt8} (h : x ≤ y) (hne : x ≠ y) : x < y := by
  rcases List.le_total y x with h' | h'
  · exact absurd (List.le_antisymm h h') hne
  · exact Decidable.byContradiction fun hn => hne (List.le_antisymm h (List.not_lt.1 hn))

theorem lst_le_lt {x y z : List UInt8} (h : x ≤ y) (k : y < z) : x < z := by
  refine lst_lt_of (List.le_trans h (List.le_of_lt k)) ?_
  rintro rfl
  exact absurd k (List.not_lt.2 h)

theorem compactUpTo_spec (d : Array (List UInt8)) (hs : ∀ i j, i < j → j < d.size → d[i]! ≤ d[j]!) : ∀ m, m ≤ d.size →
    (compactUpTo d m).Pairwise (fun x y => x < y) ∧ ∀ x, x ∈ compactUpTo d m ↔ ∃ j, j < m ∧ d[j]! = x := by
  intro m
  induction m with
  | zero => intro _; simp [compactUpTo]
  | succ m ih =>
    intro hm
    obtain ⟨h1, h2⟩ := ih (by omega)
    rw [compactUpTo_succ]
    by_cases hk : keeps d m = true
    · rw [if_pos hk]
      have hk' : m = 0 ∨ d[m]! ≠ d[m - 1]! := by simpa [keeps] using hk
      refine ⟨?_, fun x => ?_⟩
      · rw [List.pairwise_append]
        refine ⟨h1, by simp, fun x hx y hy => ?_⟩
        obtain ⟨j, hj, rfl⟩ := (h2 x).1 hx
        have hy' : y = d[m]! := by simpa using hy
        subst hy'
        have hm0 : m ≠ 0 := by omega
        have hne : d[m]! ≠ d[m - 1]! := hk'.resolve_left hm0
        have l1 : d[m - 1]! < d[m]! := lst_lt_of (hs (m - 1) m (by omega) (by omega)) (fun e => hne e.symm)
        by_cases e : j = m - 1
        · subst e; exact l1
        · exact lst_le_lt (hs j (m - 1) (by omega) (by omega)) l1
      · rw [List.mem_append, h2]
        constructor
        · rintro (⟨j, hj, rfl⟩ | h)
          · exact ⟨j, by omega, rfl⟩
          · exact ⟨m, by omega, (List.mem_singleton.1 h).symm⟩
        · rintro ⟨j, hj, rfl⟩
          by_cases e : j = m
          · subst e; exact .inr (by simp)
          · exact .inl ⟨j, by omega, rfl⟩
    · rw [if_neg hk, List.append_nil]
      refine ⟨h1, fun x => ?_⟩
      have hk' : ¬ (m = 0 ∨ d[m]! ≠ d[m - 1]!) := by simpa [keeps] using hk
      have hm0 : m ≠ 0 := fun e => hk' (.inl e)
      have he : d[m]! = d[m - 1]! := Decidable.byContradiction fun e => hk' (.inr e)
      rw [h2]
      constructor
      · rintro ⟨j, hj, rfl⟩
        exact ⟨j, by omega, rfl⟩
      · rintro ⟨j, hj, rfl⟩
        by_cases e : j = m
        · subst e; exact ⟨j - 1, by omega, he.symm⟩
        · exact ⟨j, by omega, rfl⟩

theorem srt_pairwise (l : List (List UInt8)) : (srt l).Pairwise (fun x y => x ≤ y) := by
  have tr : ∀ a b c : List UInt8, decide (a ≤ b) = true → decide (b ≤ c) = true → decide (a ≤ c) = true := fun a b c h1 h2 => by simp only [decide_eq_true_eq] at *; exact List.le_trans h1 h2
  have to : ∀ a b : List UInt8, (decide (a ≤ b) || decide (b ≤ a)) = true := fun a b => by simp only [Bool.or_eq_true, decide_eq_true_eq]; exact List.le_total a b
  exact pairwise_le (List.pairwise_mergeSort tr to l) (by intro a b h; simpa using h)

theorem mem_srt (l : List (List UInt8)) (x : List UInt8) : x ∈ srt l ↔ x ∈ l := (List.mergeSort_perm l _).mem_iff

/-- Sorted, each once: strictly ascending, and just the entries. -/
theorem compact_srt (l : List (List UInt8)) : (compact (srt l)).Pairwise (fun x y => x < y) ∧ ∀ x, x ∈ compact (srt l) ↔ x ∈ l := by
  have hp := srt_pairwise l
  have h := compactUpTo_spec (srt l).toArray (by
    intro i j hij hj
    have hj' : j < (srt l).length := by simpa using hj
    have := List.pairwise_iff_getElem.1 hp i j (by omega) hj' hij
    simpa [getElem!_pos, hj', show i < (srt l).length by omega] using this) (srt l).length (by simp)
  refine ⟨h.1, fun x => (h.2 x).trans ?_⟩
  rw [← mem_srt l x]
  constructor
  · rintro ⟨j, hj, rfl⟩
    simp [getElem!_pos, hj]
  · intro hx
    obtain ⟨j, hj, rfl⟩ := List.getElem_of_mem hx
    exact ⟨j, hj, by simp [getElem!_pos, hj]⟩

/-- Two strictly ascending lists of the same entries are one. -/
theorem strict_eq {l l' : List (List UInt8)} (h : l.Pairwise (fun x y => x < y)) (h' : l'.Pairwise (fun x y => x < y)) (hm : ∀ x, x ∈ l ↔ x ∈ l') : l = l' := by
  have nd : ∀ {l : List (List UInt8)}, l.Pairwise (fun x y => x < y) → l.Nodup := fun h => pairwise_le h (fun a b hab e => by subst e; exact absurd hab (List.not_lt.2 (List.le_refl a)))
  have hp : l.Perm l' := (List.perm_ext_iff_of_nodup (nd h) (nd h')).2 hm
  refine List.Perm.eq_of_pairwise (le := fun a b => a ≤ b) (fun a b _ _ h1 h2 => List.le_antisymm h1 h2) (pairwise_le h fun a b hab => List.le_of_lt hab) (pairwise_le h' fun a b hab => List.le_of_lt hab) hp

theorem compact_srt_congr {l l' : List (List UInt8)} (hm : ∀ x, x ∈ l ↔ x ∈ l') : compact (srt l) = compact (srt l') := by
  obtain ⟨h1, h2⟩ := compact_srt l
  obtain ⟨h1', h2'⟩ := compact_srt l'
  exact strict_eq h1 h1' fun x => (h2 x).trans ((hm x).trans (h2' x).symm)

end Go.Proofs.Qxb6601184a
