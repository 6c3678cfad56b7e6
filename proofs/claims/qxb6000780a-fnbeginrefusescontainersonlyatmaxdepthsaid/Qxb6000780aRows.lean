/-
  No cell of these rows narrows 'for every input' (looked for: loops, veiled, ifaces, maps, wideKeys, modest, calm, conditions, laid).
  DERIVED. THE GIVEN ROWS OF THIS SEAT. 6 by the template 'for every input the law returns true; each argument reads behind the call as it read before'; 0 by the template 'total and deterministic' (their statements: Qxb6000780aTotals.lean).
  GIVEN WITH THE SEED: the statements are not yours to turn. If you find one false, say at which input.
  Laid BY PROGRAM, IN A SANDBOX (cutbox-rows.mjs): the forced cells as the released guide's own fill.sh prints them over the translation 4047ad1d4b9ca0af… (all of the seat's roots in one cut). By AI agents, Wed Nov 11 2026. No macro, syntax, notation, axiom, sorry.
-/
import Derived.Test.Qxb6000780aChecked
import GoSem.Claim
import GoSem.ClaimJoined
import GoSem.ClaimMapViews
import Derived.JoinedTies
import Derived.KernelRfl
namespace Go.Proofs.Qxb6000780a
/- THE CELL 'sum', in the pinned program and in every row, IS THE sha256 OF THE DUMP (.gsa) THAT Qxb6000780aProg.lean LOADS. Nothing in Lean hashes anything: it is a label: what it is worth is what the hold of that sum in a sandbox is worth. -/
noncomputable def Try.pinned : Pinned := { name := "qxb6000780a", sum := "4047ad1d4b9ca0afb98f869ce63ec78069e4f689a4f18a77fb2aacb0e256350c", checked := Try.checked }
namespace Rows
def none {H : Type} : Left H := { results := [], args := [] }

/-- 'zzlaws_recovery_b1.FnNarrowAllowsExactlyWhatBothAllow': WHATEVER THE INPUT: true; the input reads as it did. -/
def fnNarrowAllowsExactlyWhatBothAllowSpec : ChangeSpec := { name := "fnNarrowAllowsExactlyWhatBothAllow", fn := fun _ => fun
  | [d1, d2, d3, d4] => { results := [.lit (.bool true)], args := [d1, d2, d3, d4] }
  | _ => none }
def fnNarrowAllowsExactlyWhatBothAllowRow : OpenClaim := { program := "qxb6000780a", sum := "4047ad1d4b9ca0afb98f869ce63ec78069e4f689a4f18a77fb2aacb0e256350c", func := "example.com/toolwright/toolwright/zzlaws_recovery_b1.FnNarrowAllowsExactlyWhatBothAllow", spec := "fnNarrowAllowsExactlyWhatBothAllow", apart := false }
def FnNarrowAllowsExactlyWhatBothAllowSaid : Prop := fnNarrowAllowsExactlyWhatBothAllowRow.holds Try.pinned (OpenSpec.ofChange fnNarrowAllowsExactlyWhatBothAllowSpec)

/-- ITS FALSE NEIGHBOUR: 'it returns false'. Refute it at one input. -/
def fnNarrowAllowsExactlyWhatBothAllowWrong : ChangeSpec := { name := "fnNarrowAllowsExactlyWhatBothAllow", fn := fun _ => fun
  | [d1, d2, d3, d4] => { results := [.lit (.bool false)], args := [d1, d2, d3, d4] }
  | _ => none }
def FnNarrowAllowsExactlyWhatBothAllowWrongFalsely : Prop := fnNarrowAllowsExactlyWhatBothAllowRow.holds Try.pinned (OpenSpec.ofChange fnNarrowAllowsExactlyWhatBothAllowWrong)

/-- 'zzlaws_recovery_b1.FnNarrowIsAssociative': WHATEVER THE INPUT: true; the input reads as it did. -/
def fnNarrowIsAssociativeSpec : ChangeSpec := { name := "fnNarrowIsAssociative", fn := fun _ => fun
  | [d1, d2, d3, d4, d5, d6] => { results := [.lit (.bool true)], args := [d1, d2, d3, d4, d5, d6] }
  | _ => none }
def fnNarrowIsAssociativeRow : OpenClaim := { program := "qxb6000780a", sum := "4047ad1d4b9ca0afb98f869ce63ec78069e4f689a4f18a77fb2aacb0e256350c", func := "example.com/toolwright/toolwright/zzlaws_recovery_b1.FnNarrowIsAssociative", spec := "fnNarrowIsAssociative", apart := false }
def FnNarrowIsAssociativeSaid : Prop := fnNarrowIsAssociativeRow.holds Try.pinned (OpenSpec.ofChange fnNarrowIsAssociativeSpec)

/-- ITS FALSE NEIGHBOUR: 'it returns false'. Refute it at one input. -/
def fnNarrowIsAssociativeWrong : ChangeSpec := { name := "fnNarrowIsAssociative", fn := fun _ => fun
  | [d1, d2, d3, d4, d5, d6] => { results := [.lit (.bool false)], args := [d1, d2, d3, d4, d5, d6] }
  | _ => none }
def FnNarrowIsAssociativeWrongFalsely : Prop := fnNarrowIsAssociativeRow.holds Try.pinned (OpenSpec.ofChange fnNarrowIsAssociativeWrong)

/-- 'zzlaws_recovery_b1.FnNarrowIdempotentCommutativeUnstatedNeutral': WHATEVER THE INPUT: true; the input reads as it did. -/
def fnNarrowIdempotentCommutativeUnstatedNeutralSpec : ChangeSpec := { name := "fnNarrowIdempotentCommutativeUnstatedNeutral", fn := fun _ => fun
  | [d1, d2, d3, d4] => { results := [.lit (.bool true)], args := [d1, d2, d3, d4] }
  | _ => none }
def fnNarrowIdempotentCommutativeUnstatedNeutralRow : OpenClaim := { program := "qxb6000780a", sum := "4047ad1d4b9ca0afb98f869ce63ec78069e4f689a4f18a77fb2aacb0e256350c", func := "example.com/toolwright/toolwright/zzlaws_recovery_b1.FnNarrowIdempotentCommutativeUnstatedNeutral", spec := "fnNarrowIdempotentCommutativeUnstatedNeutral", apart := false }
def FnNarrowIdempotentCommutativeUnstatedNeutralSaid : Prop := fnNarrowIdempotentCommutativeUnstatedNeutralRow.holds Try.pinned (OpenSpec.ofChange fnNarrowIdempotentCommutativeUnstatedNeutralSpec)

/-- ITS FALSE NEIGHBOUR: 'it returns false'. Refute it at one input. -/
def fnNarrowIdempotentCommutativeUnstatedNeutralWrong : ChangeSpec := { name := "fnNarrowIdempotentCommutativeUnstatedNeutral", fn := fun _ => fun
  | [d1, d2, d3, d4] => { results := [.lit (.bool false)], args := [d1, d2, d3, d4] }
  | _ => none }
def FnNarrowIdempotentCommutativeUnstatedNeutralWrongFalsely : Prop := fnNarrowIdempotentCommutativeUnstatedNeutralRow.holds Try.pinned (OpenSpec.ofChange fnNarrowIdempotentCommutativeUnstatedNeutralWrong)

/-- 'zzlaws_recovery_b1.FnStepAcceptsExactlyJSONValue': WHATEVER THE INPUT: true; the input reads as it did. -/
def fnStepAcceptsExactlyJSONValueSpec : ChangeSpec := { name := "fnStepAcceptsExactlyJSONValue", fn := fun _ => fun
  | [d] => { results := [.lit (.bool true)], args := [d] }
  | _ => none }
def fnStepAcceptsExactlyJSONValueRow : OpenClaim := { program := "qxb6000780a", sum := "4047ad1d4b9ca0afb98f869ce63ec78069e4f689a4f18a77fb2aacb0e256350c", func := "example.com/toolwright/toolwright/zzlaws_recovery_b1.FnStepAcceptsExactlyJSONValue", spec := "fnStepAcceptsExactlyJSONValue", recurses := true, apart := false }
def FnStepAcceptsExactlyJSONValueSaid : Prop := fnStepAcceptsExactlyJSONValueRow.holds Try.pinned (OpenSpec.ofChange fnStepAcceptsExactlyJSONValueSpec)

/-- ITS FALSE NEIGHBOUR: 'it returns false'. Refute it at one input. -/
def fnStepAcceptsExactlyJSONValueWrong : ChangeSpec := { name := "fnStepAcceptsExactlyJSONValue", fn := fun _ => fun
  | [d] => { results := [.lit (.bool false)], args := [d] }
  | _ => none }
def FnStepAcceptsExactlyJSONValueWrongFalsely : Prop := fnStepAcceptsExactlyJSONValueRow.holds Try.pinned (OpenSpec.ofChange fnStepAcceptsExactlyJSONValueWrong)

/-- 'zzlaws_recovery_b1.FnStepSpaceBytesAreDroppable': WHATEVER THE INPUT: true; the input reads as it did. -/
def fnStepSpaceBytesAreDroppableSpec : ChangeSpec := { name := "fnStepSpaceBytesAreDroppable", fn := fun _ => fun
  | [d] => { results := [.lit (.bool true)], args := [d] }
  | _ => none }
def fnStepSpaceBytesAreDroppableRow : OpenClaim := { program := "qxb6000780a", sum := "4047ad1d4b9ca0afb98f869ce63ec78069e4f689a4f18a77fb2aacb0e256350c", func := "example.com/toolwright/toolwright/zzlaws_recovery_b1.FnStepSpaceBytesAreDroppable", spec := "fnStepSpaceBytesAreDroppable", apart := false }
def FnStepSpaceBytesAreDroppableSaid : Prop := fnStepSpaceBytesAreDroppableRow.holds Try.pinned (OpenSpec.ofChange fnStepSpaceBytesAreDroppableSpec)

/-- ITS FALSE NEIGHBOUR: 'it returns false'. Refute it at one input. -/
def fnStepSpaceBytesAreDroppableWrong : ChangeSpec := { name := "fnStepSpaceBytesAreDroppable", fn := fun _ => fun
  | [d] => { results := [.lit (.bool false)], args := [d] }
  | _ => none }
def FnStepSpaceBytesAreDroppableWrongFalsely : Prop := fnStepSpaceBytesAreDroppableRow.holds Try.pinned (OpenSpec.ofChange fnStepSpaceBytesAreDroppableWrong)

/-- 'zzlaws_recovery_b1.FnBeginRefusesContainersOnlyAtMaxDepth': WHATEVER THE INPUT: true; the input reads as it did. -/
def fnBeginRefusesContainersOnlyAtMaxDepthSpec : ChangeSpec := { name := "fnBeginRefusesContainersOnlyAtMaxDepth", fn := fun _ => fun
  | [d1, d2] => { results := [.lit (.bool true)], args := [d1, d2] }
  | _ => none }
def fnBeginRefusesContainersOnlyAtMaxDepthRow : OpenClaim := { program := "qxb6000780a", sum := "4047ad1d4b9ca0afb98f869ce63ec78069e4f689a4f18a77fb2aacb0e256350c", func := "example.com/toolwright/toolwright/zzlaws_recovery_b1.FnBeginRefusesContainersOnlyAtMaxDepth", spec := "fnBeginRefusesContainersOnlyAtMaxDepth", apart := false }
def FnBeginRefusesContainersOnlyAtMaxDepthSaid : Prop := fnBeginRefusesContainersOnlyAtMaxDepthRow.holds Try.pinned (OpenSpec.ofChange fnBeginRefusesContainersOnlyAtMaxDepthSpec)

/-- ITS FALSE NEIGHBOUR: 'it returns false'. Refute it at one input. -/
def fnBeginRefusesContainersOnlyAtMaxDepthWrong : ChangeSpec := { name := "fnBeginRefusesContainersOnlyAtMaxDepth", fn := fun _ => fun
  | [d1, d2] => { results := [.lit (.bool false)], args := [d1, d2] }
  | _ => none }
def FnBeginRefusesContainersOnlyAtMaxDepthWrongFalsely : Prop := fnBeginRefusesContainersOnlyAtMaxDepthRow.holds Try.pinned (OpenSpec.ofChange fnBeginRefusesContainersOnlyAtMaxDepthWrong)

end Rows
end Go.Proofs.Qxb6000780a
