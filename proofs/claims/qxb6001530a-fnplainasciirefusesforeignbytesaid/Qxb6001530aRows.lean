/-
  No cell of these rows narrows 'for every input' (looked for: loops, veiled, ifaces, maps, wideKeys, modest, calm, conditions, laid).
  DERIVED. THE GIVEN ROWS OF THIS SEAT. 3 by the template 'for every input the law returns true; each argument reads behind the call as it read before'; 0 by the template 'total and deterministic' (their statements: Qxb6001530aTotals.lean).
  GIVEN WITH THE SEED: the statements are not yours to turn. If you find one false, say at which input.
  Laid BY PROGRAM, IN A SANDBOX (cutbox-rows.mjs): the forced cells as the released guide's own fill.sh prints them over the translation ae99d5ef17609db9… (all of the seat's roots in one cut). By AI agents, Wed Nov 11 2026. No macro, syntax, notation, axiom, sorry.
-/
import Derived.Test.Qxb6001530aChecked
import GoSem.Claim
import GoSem.ClaimJoined
import GoSem.ClaimMapViews
import Derived.JoinedTies
import Derived.KernelRfl
namespace Go.Proofs.Qxb6001530a
/- THE CELL 'sum', in the pinned program and in every row, IS THE sha256 OF THE DUMP (.gsa) THAT Qxb6001530aProg.lean LOADS. Nothing in Lean hashes anything: it is a label: what it is worth is what the hold of that sum in a sandbox is worth. -/
noncomputable def Try.pinned : Pinned := { name := "qxb6001530a", sum := "ae99d5ef17609db98e1bc488c9ef4d366ed05d324a01d8640e8330876ee93c7c", checked := Try.checked }
namespace Rows
def none {H : Type} : Left H := { results := [], args := [] }

/-- 'zzlaws_internal_csvfile_b1.FnPlainASCIIJoinsStayPlain': WHATEVER THE INPUT: true; the input reads as it did. -/
def fnPlainASCIIJoinsStayPlainSpec : ChangeSpec := { name := "fnPlainASCIIJoinsStayPlain", fn := fun _ => fun
  | [d1, d2] => { results := [.lit (.bool true)], args := [d1, d2] }
  | _ => none }
def fnPlainASCIIJoinsStayPlainRow : OpenClaim := { program := "qxb6001530a", sum := "ae99d5ef17609db98e1bc488c9ef4d366ed05d324a01d8640e8330876ee93c7c", func := "example.com/tuoguan/tuoguan/zzlaws_internal_csvfile_b1.FnPlainASCIIJoinsStayPlain", spec := "fnPlainASCIIJoinsStayPlain", apart := false }
def FnPlainASCIIJoinsStayPlainSaid : Prop := fnPlainASCIIJoinsStayPlainRow.holds Try.pinned (OpenSpec.ofChange fnPlainASCIIJoinsStayPlainSpec)

/-- ITS FALSE NEIGHBOUR: 'it returns false'. Refute it at one input. -/
def fnPlainASCIIJoinsStayPlainWrong : ChangeSpec := { name := "fnPlainASCIIJoinsStayPlain", fn := fun _ => fun
  | [d1, d2] => { results := [.lit (.bool false)], args := [d1, d2] }
  | _ => none }
def FnPlainASCIIJoinsStayPlainWrongFalsely : Prop := fnPlainASCIIJoinsStayPlainRow.holds Try.pinned (OpenSpec.ofChange fnPlainASCIIJoinsStayPlainWrong)

/-- 'zzlaws_internal_csvfile_b1.FnPlainASCIIRefusesForeignByte': WHATEVER THE INPUT: true; the input reads as it did. -/
def fnPlainASCIIRefusesForeignByteSpec : ChangeSpec := { name := "fnPlainASCIIRefusesForeignByte", fn := fun _ => fun
  | [d1, d2, d3] => { results := [.lit (.bool true)], args := [d1, d2, d3] }
  | _ => none }
def fnPlainASCIIRefusesForeignByteRow : OpenClaim := { program := "qxb6001530a", sum := "ae99d5ef17609db98e1bc488c9ef4d366ed05d324a01d8640e8330876ee93c7c", func := "example.com/tuoguan/tuoguan/zzlaws_internal_csvfile_b1.FnPlainASCIIRefusesForeignByte", spec := "fnPlainASCIIRefusesForeignByte", apart := false }
def FnPlainASCIIRefusesForeignByteSaid : Prop := fnPlainASCIIRefusesForeignByteRow.holds Try.pinned (OpenSpec.ofChange fnPlainASCIIRefusesForeignByteSpec)

/-- ITS FALSE NEIGHBOUR: 'it returns false'. Refute it at one input. -/
def fnPlainASCIIRefusesForeignByteWrong : ChangeSpec := { name := "fnPlainASCIIRefusesForeignByte", fn := fun _ => fun
  | [d1, d2, d3] => { results := [.lit (.bool false)], args := [d1, d2, d3] }
  | _ => none }
def FnPlainASCIIRefusesForeignByteWrongFalsely : Prop := fnPlainASCIIRefusesForeignByteRow.holds Try.pinned (OpenSpec.ofChange fnPlainASCIIRefusesForeignByteWrong)

/-- 'zzlaws_internal_csvfile_b1.FnPlainASCIIPieceOfPlainStaysPlain': WHATEVER THE INPUT: true; the input reads as it did. -/
def fnPlainASCIIPieceOfPlainStaysPlainSpec : ChangeSpec := { name := "fnPlainASCIIPieceOfPlainStaysPlain", fn := fun _ => fun
  | [d1, d2, d3] => { results := [.lit (.bool true)], args := [d1, d2, d3] }
  | _ => none }
def fnPlainASCIIPieceOfPlainStaysPlainRow : OpenClaim := { program := "qxb6001530a", sum := "ae99d5ef17609db98e1bc488c9ef4d366ed05d324a01d8640e8330876ee93c7c", func := "example.com/tuoguan/tuoguan/zzlaws_internal_csvfile_b1.FnPlainASCIIPieceOfPlainStaysPlain", spec := "fnPlainASCIIPieceOfPlainStaysPlain", apart := false }
def FnPlainASCIIPieceOfPlainStaysPlainSaid : Prop := fnPlainASCIIPieceOfPlainStaysPlainRow.holds Try.pinned (OpenSpec.ofChange fnPlainASCIIPieceOfPlainStaysPlainSpec)

/-- ITS FALSE NEIGHBOUR: 'it returns false'. Refute it at one input. -/
def fnPlainASCIIPieceOfPlainStaysPlainWrong : ChangeSpec := { name := "fnPlainASCIIPieceOfPlainStaysPlain", fn := fun _ => fun
  | [d1, d2, d3] => { results := [.lit (.bool false)], args := [d1, d2, d3] }
  | _ => none }
def FnPlainASCIIPieceOfPlainStaysPlainWrongFalsely : Prop := fnPlainASCIIPieceOfPlainStaysPlainRow.holds Try.pinned (OpenSpec.ofChange fnPlainASCIIPieceOfPlainStaysPlainWrong)

end Rows
end Go.Proofs.Qxb6001530a
