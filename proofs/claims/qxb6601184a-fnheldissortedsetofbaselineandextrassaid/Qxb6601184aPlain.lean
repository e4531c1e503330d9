import Derived.WalkKit
import Derived.Sort.EncStr
import Derived.Lib.Strings
namespace Go.Proofs.Qxb6601184a
open Go.RowKit

/-- The first k of a family of strings, as lists of bytes. -/
def strs (Sc : Nat → ByteArray) (k : Nat) : List (List UInt8) := (List.range k).map fun i => (Sc i).data.toList
theorem strs_length (Sc : Nat → ByteArray) (k : Nat) : (strs Sc k).length = k := by simp [strs]
theorem strs_succ (Sc : Nat → ByteArray) (k : Nat) : (strs Sc (k + 1)).map encStr = (strs Sc k).map encStr ++ [.string (Sc k)] := by
  simp [strs, List.range_succ, encStr]

theorem getD_lt {α : Type} (L : List α) (d : α) {i : Nat} (h : i < L.length) : L.getD i d = L[i] := by simp [List.getD, h]
theorem pairwise_le {α : Type} {R R' : α → α → Prop} {l : List α} (h : l.Pairwise R) (k : ∀ a b, R a b → R' a b) : l.Pairwise R' :=
  List.pairwise_iff_getElem.2 fun i j hi hj hij => k _ _ (List.pairwise_iff_getElem.1 h i j hi hj hij)

/-- Sorted: by bytes. -/
def srt (ss : List (List UInt8)) : List (List UInt8) := ss.mergeSort fun x y => decide (x ≤ y)

/-- The model's '<' on strings, of two strings. -/
def bl (x y : ByteArray) : Bool := Op.bytesLess x.toList y.toList

theorem bytesLess_lt : ∀ (x y : List UInt8), Op.bytesLess x y = decide (x < y)
  | [], [] => by simp [Op.bytesLess]
  | _ :: _, [] => by simp [Op.bytesLess]
  | [], _ :: _ => by simp [Op.bytesLess]
  | a :: x, b :: y => by
    rw [Op.bytesLess, bytesLess_lt x y]
    simp only [List.cons_lt_cons_iff]
    by_cases h1 : a < b <;> by_cases h2 : a = b <;> by_cases h3 : x < y <;> simp [h1, h2, h3]

theorem bl_true {x y : ByteArray} : bl x y = true ↔ x.data.toList < y.data.toList := by
  unfold bl; rw [bytesLess_lt, Lib.toList_data, Lib.toList_data]; simp
theorem bl_false {x y : ByteArray} : bl x y = false ↔ y.data.toList ≤ x.data.toList := by
  unfold bl; rw [bytesLess_lt, Lib.toList_data, Lib.toList_data]; simp
theorem bl_asymm {x y : ByteArray} (h : bl x y = true) : bl y x = false := by
  rw [bl_true] at h; rw [bl_false]; exact List.le_of_lt h
theorem bl_trans {x y z : ByteArray} (h : bl y x = false) (k : bl z y = false) : bl z x = false := by
  rw [bl_false] at *; exact List.le_trans h k

/-- L is the first k strings, in ascending order. -/
def Good (S : Nat → ByteArray) (k : Nat) (L : List ByteArray) : Prop := L.Perm ((List.range k).map S) ∧ L.Pairwise (fun x y => bl y x = false)

theorem Good.length {S : Nat → ByteArray} {k : Nat} {L : List ByteArray} (h : Good S k L) : L.length = k := by simpa using h.1.length_eq

theorem Good.zero (S : Nat → ByteArray) : Good S 0 [] := ⟨by simp, by simp⟩

theorem Good.insert {S : Nat → ByteArray} {k m : Nat} {L : List ByteArray} (h : Good S k L) (hm : m ≤ k)
    (h1 : ∀ p, m ≤ p → p < k → bl (S k) (L.getD p ByteArray.empty) = true) (h2 : m = 0 ∨ bl (S k) (L.getD (m - 1) ByteArray.empty) = false) : Good S (k + 1) (L.take m ++ S k :: L.drop m) := by
  have hl := h.length
  obtain ⟨hp, hs⟩ := h
  refine ⟨?_, ?_⟩
  · rw [List.range_succ, List.map_append]
    refine List.perm_middle.trans ?_
    rw [List.take_append_drop]
    refine (List.perm_append_singleton (S k) L).symm.trans ?_
    exact hp.append_right _
  · have hsd : (L.take m ++ L.drop m).Pairwise (fun x y => bl y x = false) := by rw [List.take_append_drop]; exact hs
    rw [List.pairwise_append] at hsd
    obtain ⟨ha, hb, hc⟩ := hsd
    rw [List.pairwise_append, List.pairwise_cons]
    refine ⟨ha, ⟨fun y hy => ?_, hb⟩, fun a hA b hB => ?_⟩
    · obtain ⟨i, hi, rfl⟩ := List.getElem_of_mem hy
      have hi' : m + i < k := by simp at hi; omega
      have := h1 (m + i) (by omega) hi'
      rw [List.getElem_drop]
      refine bl_asymm ?_
      rwa [getD_lt _ _ (by omega)] at this
    · rcases List.mem_cons.1 hB with rfl | hB
      · rcases h2 with rfl | h2
        · simp at hA
        · obtain ⟨i, hi, rfl⟩ := List.getElem_of_mem hA
          have hi' : i < m := by simp at hi; omega
          rw [List.getElem_take]
          rw [getD_lt _ _ (by omega)] at h2
          by_cases e : i = m - 1
          · subst e; exact h2
          · exact bl_trans (List.pairwise_iff_getElem.1 hs i (m - 1) (by omega) (by omega) (by omega)) h2
      · exact hc a hA b hB

/-- A list of strings in ascending order with the same entries IS the sorted list. -/
theorem sorted_eq {l l' : List (List UInt8)} (hp : l.Perm l') (hs : l.Pairwise (fun x y => x ≤ y)) : l = srt l' := by
  unfold srt
  have tr : ∀ a b c : List UInt8, decide (a ≤ b) = true → decide (b ≤ c) = true → decide (a ≤ c) = true := fun a b c h1 h2 => by simp only [decide_eq_true_eq] at *; exact List.le_trans h1 h2
  have to : ∀ a b : List UInt8, (decide (a ≤ b) || decide (b ≤ a)) = true := fun a b => by simp only [Bool.or_eq_true, decide_eq_true_eq]; exact List.le_total a b
  refine List.Perm.eq_of_pairwise (le := fun a b => decide (a ≤ b) = true) (fun a b _ _ h1 h2 => ?_) (pairwise_le hs (by intro a b h; simpa using h)) (List.pairwise_mergeSort tr to l') (hp.trans (List.mergeSort_perm l' _).symm)
  simp only [decide_eq_true_eq] at h1 h2
  exact List.le_antisymm h1 h2

theorem Good.srt {S : Nat → ByteArray} {n : Nat} {L : List ByteArray} (h : Good S n L) : L.map (·.data.toList) = srt (strs S n) := by
  refine sorted_eq ?_ ?_
  · have := h.1.map (·.data.toList)
    simpa [strs, Function.comp_def] using this
  · rw [List.pairwise_map]
    exact pairwise_le h.2 (by intro a b h; exact bl_false.1 h)

/-- The row while an entry is on its way down. -/
def mid (L : List ByteArray) (m : Nat) (y : ByteArray) : List Value := (L.take m).map Value.string ++ .string y :: (L.drop m).map Value.string

theorem mid_start (L : List ByteArray) (y : ByteArray) : L.map Value.string ++ [.string y] = mid L L.length y := by simp [mid]
theorem mid_set (L : List ByteArray) (m : Nat) (hm : m ≤ L.length) (y z : ByteArray) : (mid L m y).set m (.string z) = mid L m z := by
  unfold mid
  rw [List.set_append_right _ _ (by simp; omega)]
  simp [Nat.min_eq_left hm]
theorem mid_down (L : List ByteArray) (m : Nat) (h0 : 0 < m) (hm : m ≤ L.length) : mid L m (L.getD (m - 1) ByteArray.empty) = mid L (m - 1) (L.getD (m - 1) ByteArray.empty) := by
  unfold mid
  rw [getD_lt _ _ (by omega)]
  have e1 : L.take m = L.take (m - 1) ++ [L[m - 1]] := by
    rw [← List.take_succ_eq_append_getElem (by omega)]; congr 1; omega
  have e2 : L.drop (m - 1) = L[m - 1] :: L.drop m := by
    rw [List.drop_eq_getElem_cons (by omega)]; congr 2; omega
  rw [e1, e2, List.map_append, List.map_cons, List.map_nil, List.map_cons, List.append_assoc]; rfl
theorem mid_get (L : List ByteArray) (m p : Nat) (hp : p < m) (hm : m ≤ L.length) (y : ByteArray) : (mid L m y)[p]? = some (.string (L.getD p ByteArray.empty)) := by
  unfold mid
  rw [List.getElem?_append_left (by simp; omega), List.getElem?_map, List.getElem?_take_of_lt hp, getD_lt _ _ (by omega), List.getElem?_eq_getElem (by omega)]
  rfl
theorem mid_at (L : List ByteArray) (m : Nat) (hm : m ≤ L.length) (y : ByteArray) : (mid L m y)[m]? = some (.string y) := by
  unfold mid
  rw [List.getElem?_append_right (by simp; omega)]
  simp [Nat.min_eq_left hm]
theorem mid_end (L : List ByteArray) (m : Nat) (y : ByteArray) : mid L m y = (L.take m ++ y :: L.drop m).map Value.string := by simp [mid]

end Go.Proofs.Qxb6601184a
