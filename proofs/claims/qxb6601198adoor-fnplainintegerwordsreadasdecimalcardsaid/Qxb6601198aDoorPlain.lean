import Derived.WalkKit
import Derived.Lib.Strings
namespace Go.Proofs.Qxb6601198aDoor
open Go.RowKit

/-- A byte as a digit; no digit: 255. -/
def dv (c : Nat) : Nat := if 48 ≤ c ∧ c ≤ 57 then c - 48 else if 97 ≤ c ∧ c ≤ 122 then c - 97 + 10 else if 65 ≤ c ∧ c ≤ 90 then c - 65 + 10 else 255

/-- The number that the digits l make behind n in base b, if all are digits of the base and 64 bits hold it. -/
def pu (b n : Nat) : List UInt8 → Option Nat
  | [] => some n
  | c :: l => if dv c.toNat < b then (if n * b + dv c.toNat < 18446744073709551616 then pu b (n * b + dv c.toNat) l else none) else none

theorem pu_bad {b n : Nat} {c : UInt8} {l : List UInt8} (h : b ≤ dv c.toNat) : pu b n (c :: l) = none := by rw [pu, if_neg (by omega)]
theorem pu_over {b n : Nat} {c : UInt8} {l : List UInt8} (h : 18446744073709551616 ≤ n * b + dv c.toNat) : pu b n (c :: l) = none := by
  rw [pu]
  split
  · rw [if_neg (by omega)]
  · rfl
theorem pu_step {b n : Nat} {c : UInt8} {l : List UInt8} (h : dv c.toNat < b) (h' : n * b + dv c.toNat < 18446744073709551616) : pu b n (c :: l) = pu b (n * b + dv c.toNat) l := by rw [pu, if_pos h, if_pos h']

theorem dv_dig {c : Nat} (h : 48 ≤ c) (h' : c ≤ 57) : dv c = c - 48 := by rw [dv, if_pos ⟨h, h'⟩]
theorem dv_low {c : Nat} (h : 97 ≤ c) (h' : c ≤ 122) : dv c = c - 97 + 10 := by rw [dv, if_neg (by omega), if_pos ⟨h, h'⟩]
theorem dv_up {c : Nat} (h : 65 ≤ c) (h' : c ≤ 90) : dv c = c - 65 + 10 := by rw [dv, if_neg (by omega), if_neg (by omega), if_pos ⟨h, h'⟩]
theorem dv_no {c : Nat} (h : ¬ (48 ≤ c ∧ c ≤ 57)) (h1 : ¬ (97 ≤ c ∧ c ≤ 122)) (h2 : ¬ (65 ≤ c ∧ c ≤ 90)) : dv c = 255 := by rw [dv, if_neg h, if_neg h1, if_neg h2]

/-- What internal/strconv.ParseUint hands back. -/
def UOK (o : Option Nat) (r : Value) : Prop := match o with
  | some v => v < 18446744073709551616 ∧ r = .tuple #[.int .u64 v, .nilIface]
  | none => r = .tuple #[.int .u64 0, .iface 58 (.int .i64 2)] ∨ r = .tuple #[.int .u64 18446744073709551615, .iface 58 (.int .i64 1)]

theorem or32 : ∀ c : Fin 256, (c.val ||| 32) < 256 ∧ (97 ≤ c.val → c.val ≤ 122 → c.val ||| 32 = c.val) ∧ (65 ≤ c.val → c.val ≤ 90 → c.val ||| 32 = c.val + 32) ∧ (97 ≤ (c.val ||| 32) → (c.val ||| 32) ≤ 122 → (97 ≤ c.val ∧ c.val ≤ 122) ∨ (65 ≤ c.val ∧ c.val ≤ 90)) := by decide +kernel

end Go.Proofs.Qxb6601198aDoor
