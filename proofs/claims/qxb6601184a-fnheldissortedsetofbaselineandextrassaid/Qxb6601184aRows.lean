/-
  No cell of these rows narrows 'for every input' (looked for: loops, veiled, ifaces, maps, wideKeys, modest, calm, conditions, laid).
  DERIVED. THE GIVEN ROWS OF THIS SEAT. 4 by the template 'for every input the law returns true; each argument reads behind the call as it read before'; 0 by the template 'total and deterministic' (their statements: Qxb6601184aTotals.lean).
  GIVEN WITH THE SEED: the statements are not yours to turn. If you find one false, say at which input.
  Laid BY PROGRAM, IN A SANDBOX (cutbox-rows.mjs): the forced cells as the released guide's own fill.sh prints them over the translation 68ff125e787fb595… (all of the seat's roots in one cut). By AI agents, Wed Nov 11 2026. No macro, syntax, notation, axiom, sorry.
-/
import Derived.Test.Qxb6601184aChecked
import GoSem.Claim
import GoSem.ClaimJoined
import GoSem.ClaimMapViews
import Derived.JoinedTies
import Derived.KernelRfl
namespace Go.Proofs.Qxb6601184a
/- THE CELL 'sum', in the pinned program and in every row, IS THE sha256 OF THE DUMP (.gsa) THAT Qxb6601184aProg.lean LOADS. Nothing in Lean hashes anything: it is a label: what it is worth is what the hold of that sum in a sandbox is worth. -/
noncomputable def Try.pinned : Pinned := { name := "qxb6601184a", sum := "68ff125e787fb59566684a598702445e174ccd7af2ab3ce4dec16eb3980c3177", checked := Try.checked }
namespace Rows
def none {H : Type} : Left H := { results := [], args := [] }

/-- 'zzlaws_internal_tenancy_b1.FnAllSortsEveryRowScope': WHATEVER THE INPUT: true; the input reads as it did. -/
def fnAllSortsEveryRowScopeSpec : ChangeSpec := { name := "fnAllSortsEveryRowScope", fn := fun _ => fun
  | [d] => { results := [.lit (.bool true)], args := [d] }
  | _ => none }
def fnAllSortsEveryRowScopeRow : OpenClaim := { program := "qxb6601184a", sum := "68ff125e787fb59566684a598702445e174ccd7af2ab3ce4dec16eb3980c3177", func := "example.com/grunnmur/grunnmur/zzlaws_internal_tenancy_b1.FnAllSortsEveryRowScope", spec := "fnAllSortsEveryRowScope", recurses := true, apart := false }
def FnAllSortsEveryRowScopeSaid : Prop := fnAllSortsEveryRowScopeRow.holds Try.pinned (OpenSpec.ofChange fnAllSortsEveryRowScopeSpec)

/-- ITS FALSE NEIGHBOUR: 'it returns false'. Refute it at one input. -/
def fnAllSortsEveryRowScopeWrong : ChangeSpec := { name := "fnAllSortsEveryRowScope", fn := fun _ => fun
  | [d] => { results := [.lit (.bool false)], args := [d] }
  | _ => none }
def FnAllSortsEveryRowScopeWrongFalsely : Prop := fnAllSortsEveryRowScopeRow.holds Try.pinned (OpenSpec.ofChange fnAllSortsEveryRowScopeWrong)

/-- 'zzlaws_internal_tenancy_b1.FnHeldIsSortedSetOfBaselineAndExtras': WHATEVER THE INPUT: true; the input reads as it did. -/
def fnHeldIsSortedSetOfBaselineAndExtrasSpec : ChangeSpec := { name := "fnHeldIsSortedSetOfBaselineAndExtras", fn := fun _ => fun
  | [d1, d2, d3] => { results := [.lit (.bool true)], args := [d1, d2, d3] }
  | _ => none }
def fnHeldIsSortedSetOfBaselineAndExtrasRow : OpenClaim := { program := "qxb6601184a", sum := "68ff125e787fb59566684a598702445e174ccd7af2ab3ce4dec16eb3980c3177", func := "example.com/grunnmur/grunnmur/zzlaws_internal_tenancy_b1.FnHeldIsSortedSetOfBaselineAndExtras", spec := "fnHeldIsSortedSetOfBaselineAndExtras", recurses := true, apart := false }
def FnHeldIsSortedSetOfBaselineAndExtrasSaid : Prop := fnHeldIsSortedSetOfBaselineAndExtrasRow.holds Try.pinned (OpenSpec.ofChange fnHeldIsSortedSetOfBaselineAndExtrasSpec)

/-- ITS FALSE NEIGHBOUR: 'it returns false'. Refute it at one input. -/
def fnHeldIsSortedSetOfBaselineAndExtrasWrong : ChangeSpec := { name := "fnHeldIsSortedSetOfBaselineAndExtras", fn := fun _ => fun
  | [d1, d2, d3] => { results := [.lit (.bool false)], args := [d1, d2, d3] }
  | _ => none }
def FnHeldIsSortedSetOfBaselineAndExtrasWrongFalsely : Prop := fnHeldIsSortedSetOfBaselineAndExtrasRow.holds Try.pinned (OpenSpec.ofChange fnHeldIsSortedSetOfBaselineAndExtrasWrong)

/-- 'zzlaws_internal_tenancy_b1.FnHeldIsIdempotent': WHATEVER THE INPUT: true; the input reads as it did. -/
def fnHeldIsIdempotentSpec : ChangeSpec := { name := "fnHeldIsIdempotent", fn := fun _ => fun
  | [d1, d2, d3] => { results := [.lit (.bool true)], args := [d1, d2, d3] }
  | _ => none }
def fnHeldIsIdempotentRow : OpenClaim := { program := "qxb6601184a", sum := "68ff125e787fb59566684a598702445e174ccd7af2ab3ce4dec16eb3980c3177", func := "example.com/grunnmur/grunnmur/zzlaws_internal_tenancy_b1.FnHeldIsIdempotent", spec := "fnHeldIsIdempotent", recurses := true, apart := false }
def FnHeldIsIdempotentSaid : Prop := fnHeldIsIdempotentRow.holds Try.pinned (OpenSpec.ofChange fnHeldIsIdempotentSpec)

/-- ITS FALSE NEIGHBOUR: 'it returns false'. Refute it at one input. -/
def fnHeldIsIdempotentWrong : ChangeSpec := { name := "fnHeldIsIdempotent", fn := fun _ => fun
  | [d1, d2, d3] => { results := [.lit (.bool false)], args := [d1, d2, d3] }
  | _ => none }
def FnHeldIsIdempotentWrongFalsely : Prop := fnHeldIsIdempotentRow.holds Try.pinned (OpenSpec.ofChange fnHeldIsIdempotentWrong)

/-- 'zzlaws_internal_tenancy_b1.FnHeldOfEveryScopeIsDistinctAll': WHATEVER THE INPUT: true; the input reads as it did. -/
def fnHeldOfEveryScopeIsDistinctAllSpec : ChangeSpec := { name := "fnHeldOfEveryScopeIsDistinctAll", fn := fun _ => fun
  | [d1, d2] => { results := [.lit (.bool true)], args := [d1, d2] }
  | _ => none }
def fnHeldOfEveryScopeIsDistinctAllRow : OpenClaim := { program := "qxb6601184a", sum := "68ff125e787fb59566684a598702445e174ccd7af2ab3ce4dec16eb3980c3177", func := "example.com/grunnmur/grunnmur/zzlaws_internal_tenancy_b1.FnHeldOfEveryScopeIsDistinctAll", spec := "fnHeldOfEveryScopeIsDistinctAll", recurses := true, apart := false }
def FnHeldOfEveryScopeIsDistinctAllSaid : Prop := fnHeldOfEveryScopeIsDistinctAllRow.holds Try.pinned (OpenSpec.ofChange fnHeldOfEveryScopeIsDistinctAllSpec)

/-- ITS FALSE NEIGHBOUR: 'it returns false'. Refute it at one input. -/
def fnHeldOfEveryScopeIsDistinctAllWrong : ChangeSpec := { name := "fnHeldOfEveryScopeIsDistinctAll", fn := fun _ => fun
  | [d1, d2] => { results := [.lit (.bool false)], args := [d1, d2] }
  | _ => none }
def FnHeldOfEveryScopeIsDistinctAllWrongFalsely : Prop := fnHeldOfEveryScopeIsDistinctAllRow.holds Try.pinned (OpenSpec.ofChange fnHeldOfEveryScopeIsDistinctAllWrong)

end Rows
end Go.Proofs.Qxb6601184a
