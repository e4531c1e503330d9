import Derived.Test.Qxb6601198aDoorPlain
namespace Go.Proofs.Qxb6601198aDoor
open Go.RowKit

/-- Base 0: the base that the text's own prefix says, and the digits behind it. -/
def eff : List UInt8 → Nat × List UInt8
  | [] => (10, [])
  | c0 :: r => if c0.toNat = 48 then
      (match r with
      | c1 :: c2 :: r2 => if (c1.toNat ||| 32) = 98 then (2, c2 :: r2) else if (c1.toNat ||| 32) = 111 then (8, c2 :: r2) else if (c1.toNat ||| 32) = 120 then (16, c2 :: r2) else (8, r)
      | _ => (8, r))
    else (10, c0 :: r)

/-- strconv.ParseUint(l, 0, 64) ¦ strconv.ParseUint(l, b, 64). -/
def u0 : List UInt8 → Option Nat
  | [] => none
  | c :: r => pu (eff (c :: r)).1 0 (eff (c :: r)).2
def ub (b : Nat) : List UInt8 → Option Nat
  | [] => none
  | c :: r => pu b 0 (c :: r)

def small (o : Option Nat) : Option Int := match o with
  | some v => if v < 9223372036854775808 then some (v : Int) else none
  | none => none
def smallNeg (o : Option Nat) : Option Int := match o with
  | some v => if v ≤ 9223372036854775808 then some (-(v : Int)) else none
  | none => none

/-- strconv.ParseInt over the unsigned reader f. -/
def pI (f : List UInt8 → Option Nat) : List UInt8 → Option Int
  | [] => none
  | c :: r => if c.toNat = 43 then small (f r) else if c.toNat = 45 then smallNeg (f r) else small (f (c :: r))

/-- What internal/strconv.ParseInt hands back. -/
def IOK (o : Option Int) (r : Value) : Prop := match o with
  | some v => r = .tuple #[.int .i64 v, .nilIface]
  | none => ∃ x : Int, r = .tuple #[.int .i64 x, .iface 58 (.int .i64 2)] ∨ r = .tuple #[.int .i64 x, .iface 58 (.int .i64 1)]

end Go.Proofs.Qxb6601198aDoor
