/-
  No cell of these rows narrows 'for every input' (looked for: loops, veiled, ifaces, maps, wideKeys, modest, calm, conditions, laid).
  DERIVED. THE GIVEN ROWS OF THIS SEAT. 5 by the template 'for every input the law returns true; each argument reads behind the call as it read before'; 0 by the template 'total and deterministic' (their statements: Qxb6000947aTotals.lean).
  GIVEN WITH THE SEED: the statements are not yours to turn. If you find one false, say at which input.
  Laid BY PROGRAM, IN A SANDBOX (cutbox-rows.mjs): the forced cells as the released guide's own fill.sh prints them over the translation aad57948f4401916… (all of the seat's roots in one cut). By AI agents, Wed Nov 11 2026. No macro, syntax, notation, axiom, sorry.
-/
import Derived.Test.Qxb6000947aChecked
import GoSem.Claim
import GoSem.ClaimJoined
import GoSem.ClaimMapViews
import Derived.JoinedTies
import Derived.KernelRfl
namespace Go.Proofs.Qxb6000947a
/- THE CELL 'sum', in the pinned program and in every row, IS THE sha256 OF THE DUMP (.gsa) THAT Qxb6000947aProg.lean LOADS. Nothing in Lean hashes anything: it is a label: what it is worth is what the hold of that sum in a sandbox is worth. -/
noncomputable def Try.pinned : Pinned := { name := "qxb6000947a", sum := "aad57948f4401916cd8b302a2e22b37904bc0197753414897fdb6c8799ea6e10", checked := Try.checked }
namespace Rows
def none {H : Type} : Left H := { results := [], args := [] }

/-- 'zzlaws_internal_ignore_b1.FnTrimSpacesRightToLeftModel': WHATEVER THE INPUT: true; the input reads as it did. -/
def fnTrimSpacesRightToLeftModelSpec : ChangeSpec := { name := "fnTrimSpacesRightToLeftModel", fn := fun _ => fun
  | [d] => { results := [.lit (.bool true)], args := [d] }
  | _ => none }
def fnTrimSpacesRightToLeftModelRow : OpenClaim := { program := "qxb6000947a", sum := "aad57948f4401916cd8b302a2e22b37904bc0197753414897fdb6c8799ea6e10", func := "example.com/seamark/seamark/zzlaws_internal_ignore_b1.FnTrimSpacesRightToLeftModel", spec := "fnTrimSpacesRightToLeftModel", apart := false }
def FnTrimSpacesRightToLeftModelSaid : Prop := fnTrimSpacesRightToLeftModelRow.holds Try.pinned (OpenSpec.ofChange fnTrimSpacesRightToLeftModelSpec)

/-- ITS FALSE NEIGHBOUR: 'it returns false'. Refute it at one input. -/
def fnTrimSpacesRightToLeftModelWrong : ChangeSpec := { name := "fnTrimSpacesRightToLeftModel", fn := fun _ => fun
  | [d] => { results := [.lit (.bool false)], args := [d] }
  | _ => none }
def FnTrimSpacesRightToLeftModelWrongFalsely : Prop := fnTrimSpacesRightToLeftModelRow.holds Try.pinned (OpenSpec.ofChange fnTrimSpacesRightToLeftModelWrong)

/-- 'zzlaws_internal_ignore_b1.FnTrimSpacesIdempotent': WHATEVER THE INPUT: true; the input reads as it did. -/
def fnTrimSpacesIdempotentSpec : ChangeSpec := { name := "fnTrimSpacesIdempotent", fn := fun _ => fun
  | [d] => { results := [.lit (.bool true)], args := [d] }
  | _ => none }
def fnTrimSpacesIdempotentRow : OpenClaim := { program := "qxb6000947a", sum := "aad57948f4401916cd8b302a2e22b37904bc0197753414897fdb6c8799ea6e10", func := "example.com/seamark/seamark/zzlaws_internal_ignore_b1.FnTrimSpacesIdempotent", spec := "fnTrimSpacesIdempotent", apart := false }
def FnTrimSpacesIdempotentSaid : Prop := fnTrimSpacesIdempotentRow.holds Try.pinned (OpenSpec.ofChange fnTrimSpacesIdempotentSpec)

/-- ITS FALSE NEIGHBOUR: 'it returns false'. Refute it at one input. -/
def fnTrimSpacesIdempotentWrong : ChangeSpec := { name := "fnTrimSpacesIdempotent", fn := fun _ => fun
  | [d] => { results := [.lit (.bool false)], args := [d] }
  | _ => none }
def FnTrimSpacesIdempotentWrongFalsely : Prop := fnTrimSpacesIdempotentRow.holds Try.pinned (OpenSpec.ofChange fnTrimSpacesIdempotentWrong)

/-- 'zzlaws_internal_ignore_b1.FnWildConcatenation': WHATEVER THE INPUT: true; the input reads as it did. -/
def fnWildConcatenationSpec : ChangeSpec := { name := "fnWildConcatenation", fn := fun _ => fun
  | [d1, d2, d3, d4, d5, d6, d7, d8, d9, d10] => { results := [.lit (.bool true)], args := [d1, d2, d3, d4, d5, d6, d7, d8, d9, d10] }
  | _ => none }
def fnWildConcatenationRow : OpenClaim := { program := "qxb6000947a", sum := "aad57948f4401916cd8b302a2e22b37904bc0197753414897fdb6c8799ea6e10", func := "example.com/seamark/seamark/zzlaws_internal_ignore_b1.FnWildConcatenation", spec := "fnWildConcatenation", recurses := true, apart := false }
def FnWildConcatenationSaid : Prop := fnWildConcatenationRow.holds Try.pinned (OpenSpec.ofChange fnWildConcatenationSpec)

/-- ITS FALSE NEIGHBOUR: 'it returns false'. Refute it at one input. -/
def fnWildConcatenationWrong : ChangeSpec := { name := "fnWildConcatenation", fn := fun _ => fun
  | [d1, d2, d3, d4, d5, d6, d7, d8, d9, d10] => { results := [.lit (.bool false)], args := [d1, d2, d3, d4, d5, d6, d7, d8, d9, d10] }
  | _ => none }
def FnWildConcatenationWrongFalsely : Prop := fnWildConcatenationRow.holds Try.pinned (OpenSpec.ofChange fnWildConcatenationWrong)

/-- 'zzlaws_internal_ignore_b1.FnIgnoresUnionWithoutNegation': WHATEVER THE INPUT: true; the input reads as it did. -/
def fnIgnoresUnionWithoutNegationSpec : ChangeSpec := { name := "fnIgnoresUnionWithoutNegation", fn := fun _ => fun
  | [d1, d2, d3, d4, d5, d6, d7, d8, d9] => { results := [.lit (.bool true)], args := [d1, d2, d3, d4, d5, d6, d7, d8, d9] }
  | _ => none }
def fnIgnoresUnionWithoutNegationRow : OpenClaim := { program := "qxb6000947a", sum := "aad57948f4401916cd8b302a2e22b37904bc0197753414897fdb6c8799ea6e10", func := "example.com/seamark/seamark/zzlaws_internal_ignore_b1.FnIgnoresUnionWithoutNegation", spec := "fnIgnoresUnionWithoutNegation", recurses := true, apart := false }
def FnIgnoresUnionWithoutNegationSaid : Prop := fnIgnoresUnionWithoutNegationRow.holds Try.pinned (OpenSpec.ofChange fnIgnoresUnionWithoutNegationSpec)

/-- ITS FALSE NEIGHBOUR: 'it returns false'. Refute it at one input. -/
def fnIgnoresUnionWithoutNegationWrong : ChangeSpec := { name := "fnIgnoresUnionWithoutNegation", fn := fun _ => fun
  | [d1, d2, d3, d4, d5, d6, d7, d8, d9] => { results := [.lit (.bool false)], args := [d1, d2, d3, d4, d5, d6, d7, d8, d9] }
  | _ => none }
def FnIgnoresUnionWithoutNegationWrongFalsely : Prop := fnIgnoresUnionWithoutNegationRow.holds Try.pinned (OpenSpec.ofChange fnIgnoresUnionWithoutNegationWrong)

/-- 'zzlaws_internal_ignore_b1.FnIgnoresDirMonotone': WHATEVER THE INPUT: true; the input reads as it did. -/
def fnIgnoresDirMonotoneSpec : ChangeSpec := { name := "fnIgnoresDirMonotone", fn := fun _ => fun
  | [d1, d2, d3, d4, d5, d6, d7, d8] => { results := [.lit (.bool true)], args := [d1, d2, d3, d4, d5, d6, d7, d8] }
  | _ => none }
def fnIgnoresDirMonotoneRow : OpenClaim := { program := "qxb6000947a", sum := "aad57948f4401916cd8b302a2e22b37904bc0197753414897fdb6c8799ea6e10", func := "example.com/seamark/seamark/zzlaws_internal_ignore_b1.FnIgnoresDirMonotone", spec := "fnIgnoresDirMonotone", recurses := true, apart := false }
def FnIgnoresDirMonotoneSaid : Prop := fnIgnoresDirMonotoneRow.holds Try.pinned (OpenSpec.ofChange fnIgnoresDirMonotoneSpec)

/-- ITS FALSE NEIGHBOUR: 'it returns false'. Refute it at one input. -/
def fnIgnoresDirMonotoneWrong : ChangeSpec := { name := "fnIgnoresDirMonotone", fn := fun _ => fun
  | [d1, d2, d3, d4, d5, d6, d7, d8] => { results := [.lit (.bool false)], args := [d1, d2, d3, d4, d5, d6, d7, d8] }
  | _ => none }
def FnIgnoresDirMonotoneWrongFalsely : Prop := fnIgnoresDirMonotoneRow.holds Try.pinned (OpenSpec.ofChange fnIgnoresDirMonotoneWrong)

end Rows
end Go.Proofs.Qxb6000947a
