/-
  No cell of these rows narrows 'for every input' (looked for: loops, veiled, ifaces, maps, wideKeys, modest, calm, conditions, laid).
  DERIVED. THE GIVEN ROWS OF THIS SEAT. 2 by the template 'for every input the law returns true; each argument reads behind the call as it read before'; 0 by the template 'total and deterministic' (their statements: Qxb6617351aTotals.lean).
  GIVEN WITH THE SEED: the statements are not yours to turn. If you find one false, say at which input.
  Laid BY PROGRAM, IN A SANDBOX (cutbox-rows.mjs): the forced cells as the released guide's own fill.sh prints them over the translation 6c708213fe1f3698… (all of the seat's roots in one cut). By AI agents, Wed Nov 11 2026. No macro, syntax, notation, axiom, sorry.
-/
import Derived.Test.Qxb6617351aChecked
import GoSem.Claim
import GoSem.ClaimJoined
import GoSem.ClaimMapViews
import Derived.JoinedTies
import Derived.KernelRfl
namespace Go.Proofs.Qxb6617351a
/- THE CELL 'sum', in the pinned program and in every row, IS THE sha256 OF THE DUMP (.gsa) THAT Qxb6617351aProg.lean LOADS. Nothing in Lean hashes anything: it is a label: what it is worth is what the hold of that sum in a sandbox is worth. -/
noncomputable def Try.pinned : Pinned := { name := "qxb6617351a", sum := "6c708213fe1f36986072ca98e23f170c079127e0b004d5b054fcbfcb8696090a", checked := Try.checked }
namespace Rows
def none {H : Type} : Left H := { results := [], args := [] }

/-- 'zzlaws_dagpb_b1.FnAppendBytesFieldTwoFieldsDecode': WHATEVER THE INPUT: true; the input reads as it did. -/
def fnAppendBytesFieldTwoFieldsDecodeSpec : ChangeSpec := { name := "fnAppendBytesFieldTwoFieldsDecode", fn := fun _ => fun
  | [d1, d2, d3, d4, d5] => { results := [.lit (.bool true)], args := [d1, d2, d3, d4, d5] }
  | _ => none }
def fnAppendBytesFieldTwoFieldsDecodeRow : OpenClaim := { program := "qxb6617351a", sum := "6c708213fe1f36986072ca98e23f170c079127e0b004d5b054fcbfcb8696090a", func := "example.com/veracar/veracar/zzlaws_dagpb_b1.FnAppendBytesFieldTwoFieldsDecode", spec := "fnAppendBytesFieldTwoFieldsDecode", apart := false }
def FnAppendBytesFieldTwoFieldsDecodeSaid : Prop := fnAppendBytesFieldTwoFieldsDecodeRow.holds Try.pinned (OpenSpec.ofChange fnAppendBytesFieldTwoFieldsDecodeSpec)

/-- ITS FALSE NEIGHBOUR: 'it returns false'. Refute it at one input. -/
def fnAppendBytesFieldTwoFieldsDecodeWrong : ChangeSpec := { name := "fnAppendBytesFieldTwoFieldsDecode", fn := fun _ => fun
  | [d1, d2, d3, d4, d5] => { results := [.lit (.bool false)], args := [d1, d2, d3, d4, d5] }
  | _ => none }
def FnAppendBytesFieldTwoFieldsDecodeWrongFalsely : Prop := fnAppendBytesFieldTwoFieldsDecodeRow.holds Try.pinned (OpenSpec.ofChange fnAppendBytesFieldTwoFieldsDecodeWrong)

/-- 'zzlaws_dagpb_b1.FnAppendBytesFieldPrefixAndLength': WHATEVER THE INPUT: true; the input reads as it did. -/
def fnAppendBytesFieldPrefixAndLengthSpec : ChangeSpec := { name := "fnAppendBytesFieldPrefixAndLength", fn := fun _ => fun
  | [d1, d2, d3] => { results := [.lit (.bool true)], args := [d1, d2, d3] }
  | _ => none }
def fnAppendBytesFieldPrefixAndLengthRow : OpenClaim := { program := "qxb6617351a", sum := "6c708213fe1f36986072ca98e23f170c079127e0b004d5b054fcbfcb8696090a", func := "example.com/veracar/veracar/zzlaws_dagpb_b1.FnAppendBytesFieldPrefixAndLength", spec := "fnAppendBytesFieldPrefixAndLength", apart := false }
def FnAppendBytesFieldPrefixAndLengthSaid : Prop := fnAppendBytesFieldPrefixAndLengthRow.holds Try.pinned (OpenSpec.ofChange fnAppendBytesFieldPrefixAndLengthSpec)

/-- ITS FALSE NEIGHBOUR: 'it returns false'. Refute it at one input. -/
def fnAppendBytesFieldPrefixAndLengthWrong : ChangeSpec := { name := "fnAppendBytesFieldPrefixAndLength", fn := fun _ => fun
  | [d1, d2, d3] => { results := [.lit (.bool false)], args := [d1, d2, d3] }
  | _ => none }
def FnAppendBytesFieldPrefixAndLengthWrongFalsely : Prop := fnAppendBytesFieldPrefixAndLengthRow.holds Try.pinned (OpenSpec.ofChange fnAppendBytesFieldPrefixAndLengthWrong)

end Rows
end Go.Proofs.Qxb6617351a
