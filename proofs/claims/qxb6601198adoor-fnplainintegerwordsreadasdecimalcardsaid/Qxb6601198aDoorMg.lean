import Derived.Test.Qxb6601198aDoorProg
import Derived.Test.Qxb6601198aDoorPlainB
import Derived.WalkSpells
import Derived.WalkLawsBesides
namespace Go.Proofs.Qxb6601198aDoor
open Go.RowKit

/-- What magnitude hands back. -/
def MOK (o : Option Nat) (r : Value) : Prop := match o with
  | some v => v < 18446744073709551616 ∧ r = .tuple #[.int .u64 v, .bool true, .bool true]
  | none => ∃ (m : Int) (x : Bool), r = .tuple #[.int .u64 m, .bool x, .bool false]

/-- magnitude's loop ahead of the k-th byte. -/
def MR (b : Nat) (l : List UInt8) (k : Nat) (vm vf : Value) : Prop :=
  (∃ (acc : Nat) (a : Int), vm = .int .u64 a ∧ vf = .bool true ∧ Hid (a = (acc : Int) ∧ acc < 18446744073709551616 ∧ pu b 0 l = pu b acc (l.drop k))) ∨
  (∃ a : Int, 0 ≤ a ∧ a < 18446744073709551616 ∧ vm = .int .u64 a ∧ vf = .bool false ∧ pu b 0 l = none)

end Go.Proofs.Qxb6601198aDoor
