import Derived.WalkKit
namespace Go.Proofs.Qxb6601198a

/-- The counting automaton: p continuation bytes are still owed. -/
def pend : Nat → List UInt8 → Bool
  | p, [] => p == 0
  | 0, b :: l => if b.toNat < 128 then pend 0 l else if 192 ≤ b.toNat ∧ b.toNat < 224 then pend 1 l else if 224 ≤ b.toNat ∧ b.toNat < 240 then pend 2 l else if 240 ≤ b.toNat ∧ b.toNat < 248 then pend 3 l else false
  | p + 1, b :: l => if 128 ≤ b.toNat ∧ b.toNat < 192 then pend p l else false

theorem pend_short : ∀ (p : Nat) (l : List UInt8), l.length < p → pend p l = false
  | 0, _, h => by omega
  | p + 1, [], _ => by simp [pend]
  | p + 1, b :: l, h => by
    rw [pend]
    split
    · exact pend_short p l (by simp at h; omega)
    · rfl

theorem drop_cons (s : ByteArray) (k : Nat) (h : k < s.size) : s.data.toList.drop k = s[k] :: s.data.toList.drop (k + 1) := by
  rw [List.drop_eq_getElem_cons (by simpa using h)]; rfl

theorem drop_end (s : ByteArray) (k : Nat) (h : s.size ≤ k) : s.data.toList.drop k = [] := List.drop_eq_nil_of_le (by simpa using h)

/-- What is left of s from place k on, p bytes owed. -/
def rest (s : ByteArray) (p k : Nat) : Bool := pend p (s.data.toList.drop k)

theorem rest_end (s : ByteArray) (p : Nat) (k : Nat) (h : s.size ≤ k) : rest s p k = (p == 0) := by rw [rest, drop_end s k h]; cases p <;> rfl
theorem rest_cont (s : ByteArray) (p k : Nat) (h : k < s.size) (h1 : 128 ≤ s[k].toNat) (h2 : s[k].toNat < 192) : rest s (p + 1) k = rest s p (k + 1) := by
  rw [rest, drop_cons s k h, pend, if_pos ⟨h1, h2⟩]; rfl
theorem rest_bad (s : ByteArray) (p k : Nat) (h : k < s.size) (h1 : s[k].toNat < 128 ∨ 192 ≤ s[k].toNat) : rest s (p + 1) k = false := by
  rw [rest, drop_cons s k h, pend, if_neg (by omega)]
theorem rest_0 (s : ByteArray) (k : Nat) (h : k < s.size) (h1 : s[k].toNat < 128) : rest s 0 k = rest s 0 (k + 1) := by
  rw [rest, drop_cons s k h, pend, if_pos h1]; rfl
theorem rest_1 (s : ByteArray) (k : Nat) (h : k < s.size) (h1 : 192 ≤ s[k].toNat) (h2 : s[k].toNat < 224) : rest s 0 k = rest s 1 (k + 1) := by
  rw [rest, drop_cons s k h, pend, if_neg (by omega), if_pos ⟨h1, h2⟩]; rfl
theorem rest_2 (s : ByteArray) (k : Nat) (h : k < s.size) (h1 : 224 ≤ s[k].toNat) (h2 : s[k].toNat < 240) : rest s 0 k = rest s 2 (k + 1) := by
  rw [rest, drop_cons s k h, pend, if_neg (by omega), if_neg (by omega), if_pos ⟨h1, h2⟩]; rfl
theorem rest_3 (s : ByteArray) (k : Nat) (h : k < s.size) (h1 : 240 ≤ s[k].toNat) (h2 : s[k].toNat < 248) : rest s 0 k = rest s 3 (k + 1) := by
  rw [rest, drop_cons s k h, pend, if_neg (by omega), if_neg (by omega), if_neg (by omega), if_pos ⟨h1, h2⟩]; rfl
theorem rest_no (s : ByteArray) (k : Nat) (h : k < s.size) (h1 : 128 ≤ s[k].toNat) (h2 : s[k].toNat < 192 ∨ 248 ≤ s[k].toNat) : rest s 0 k = false := by
  rw [rest, drop_cons s k h, pend, if_neg (by omega), if_neg (by omega), if_neg (by omega), if_neg (by omega)]
theorem rest_short (s : ByteArray) (p k : Nat) (h : s.size < k + p) (hk : k ≤ s.size) : rest s p k = false := by
  rw [rest]
  exact pend_short p _ (by simp; omega)

end Go.Proofs.Qxb6601198a
