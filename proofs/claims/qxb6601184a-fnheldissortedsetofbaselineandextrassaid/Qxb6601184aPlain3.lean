import Derived.Test.Qxb6601184aPlain2
namespace Go.Proofs.Qxb6601184a
open Go.Lib

/-- L is the first k strings, each once, in ascending order. -/
def GoodS (S : Nat → ByteArray) (k : Nat) (L : List ByteArray) : Prop := (∀ x, x ∈ L.map (·.data.toList) ↔ x ∈ strs S k) ∧ L.Pairwise (fun x y => bl x y = true) ∧ L.length ≤ k

theorem GoodS.zero (S : Nat → ByteArray) : GoodS S 0 [] := ⟨by simp [strs], by simp, by simp⟩

theorem mem_strs_succ (S : Nat → ByteArray) (k : Nat) (x : List UInt8) : x ∈ strs S (k + 1) ↔ x ∈ strs S k ∨ x = (S k).data.toList := by
  simp [strs, List.range_succ]

theorem bl_trans_true {x y z : ByteArray} (h : bl x y = true) (k : bl y z = true) : bl x z = true := by
  rw [bl_true] at *
  exact lst_le_lt (List.le_of_lt h) k

theorem GoodS.there {S : Nat → ByteArray} {k j : Nat} {L : List ByteArray} (h : GoodS S k L) (hj : j < L.length) (e : (L.getD j ByteArray.empty).data.toList = (S k).data.toList) : GoodS S (k + 1) L := by
  refine ⟨fun x => ?_, h.2.1, Nat.le_succ_of_le h.2.2⟩
  rw [mem_strs_succ, ← h.1 x]
  constructor
  · exact .inl
  · rintro (h' | rfl)
    · exact h'
    · rw [← e, getD_lt _ _ hj]
      exact List.mem_map.2 ⟨L[j], List.getElem_mem hj, rfl⟩

theorem GoodS.insert {S : Nat → ByteArray} {k m : Nat} {L : List ByteArray} (h : GoodS S k L) (hm : m ≤ L.length)
    (h1 : ∀ p, p < m → bl (L.getD p ByteArray.empty) (S k) = true) (h2 : m < L.length → bl (S k) (L.getD m ByteArray.empty) = true) : GoodS S (k + 1) (L.take m ++ S k :: L.drop m) := by
  obtain ⟨hp, hs, hl⟩ := h
  refine ⟨fun x => ?_, ?_, by simp; omega⟩
  · rw [mem_strs_succ, ← hp x]
    have e : L.map (·.data.toList) = (L.take m).map (·.data.toList) ++ (L.drop m).map (·.data.toList) := by rw [← List.map_append, List.take_append_drop]
    rw [e, List.map_append, List.map_cons, List.mem_append, List.mem_append, List.mem_cons]
    constructor
    · rintro (h | h | h)
      · exact .inl (.inl h)
      · exact .inr h
      · exact .inl (.inr h)
    · rintro ((h | h) | h)
      · exact .inl h
      · exact .inr (.inr h)
      · exact .inr (.inl h)
  · have hsd : (L.take m ++ L.drop m).Pairwise (fun x y => bl x y = true) := by rw [List.take_append_drop]; exact hs
    rw [List.pairwise_append] at hsd
    obtain ⟨ha, hb, hc⟩ := hsd
    have up : ∀ y ∈ L.drop m, bl (S k) y = true := by
      intro y hy
      obtain ⟨i, hi, rfl⟩ := List.getElem_of_mem hy
      have hi' : m + i < L.length := by simp at hi; omega
      rw [List.getElem_drop]
      have hm' := h2 (by omega)
      rw [getD_lt _ _ (by omega)] at hm'
      by_cases e : i = 0
      · subst e; exact hm'
      · exact bl_trans_true hm' (List.pairwise_iff_getElem.1 hs m (m + i) (by omega) hi' (by omega))
    rw [List.pairwise_append, List.pairwise_cons]
    refine ⟨ha, ⟨up, hb⟩, fun a hA b hB => ?_⟩
    rcases List.mem_cons.1 hB with rfl | hB
    · obtain ⟨i, hi, rfl⟩ := List.getElem_of_mem hA
      have hi' : i < m := by simp at hi; omega
      rw [List.getElem_take]
      have := h1 i hi'
      rwa [getD_lt _ _ (by omega)] at this
    · exact hc a hA b hB

theorem GoodS.eq {S : Nat → ByteArray} {n : Nat} {L : List ByteArray} (h : GoodS S n L) : L.map (·.data.toList) = compact (srt (strs S n)) := by
  obtain ⟨h1, h2⟩ := compact_srt (strs S n)
  refine strict_eq ?_ h1 fun x => (h.1 x).trans (h2 x).symm
  rw [List.pairwise_map]
  exact pairwise_le h.2.1 fun a b hab => bl_true.1 hab

theorem GoodS.len {S : Nat → ByteArray} {n : Nat} {L : List ByteArray} (h : GoodS S n L) : L.length ≤ n := h.2.2

end Go.Proofs.Qxb6601184a
