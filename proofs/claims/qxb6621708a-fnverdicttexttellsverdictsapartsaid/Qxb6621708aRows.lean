/-
  No cell of these rows narrows 'for every input' (looked for: loops, veiled, ifaces, maps, wideKeys, modest, calm, conditions, laid).
  DERIVED. THE GIVEN ROWS OF THIS SEAT. 2 by the template 'for every input the law returns true; each argument reads behind the call as it read before'; 0 by the template 'total and deterministic' (their statements: Qxb6621708aTotals.lean).
  GIVEN WITH THE SEED: the statements are not yours to turn. If you find one false, say at which input.
  Laid BY PROGRAM, IN A SANDBOX (cutbox-rows.mjs): the forced cells as the released guide's own fill.sh prints them over the translation 2eb22116e79afb5f… (all of the seat's roots in one cut). By AI agents, Wed Nov 11 2026. No macro, syntax, notation, axiom, sorry.
-/
import Derived.Test.Qxb6621708aChecked
import GoSem.Claim
import GoSem.ClaimJoined
import GoSem.ClaimMapViews
import Derived.JoinedTies
import Derived.KernelRfl
namespace Go.Proofs.Qxb6621708a
/- THE CELL 'sum', in the pinned program and in every row, IS THE sha256 OF THE DUMP (.gsa) THAT Qxb6621708aProg.lean LOADS. Nothing in Lean hashes anything: it is a label: what it is worth is what the hold of that sum in a sandbox is worth. -/
noncomputable def Try.pinned : Pinned := { name := "qxb6621708a", sum := "2eb22116e79afb5f0ec68777a4a60fe293327ce2be0bed8c809a273abf098799", checked := Try.checked }
namespace Rows
def none {H : Type} : Left H := { results := [], args := [] }

/-- 'zzlaws_instruction_b1.FnVerdictTextJoinAtAnyCut': WHATEVER THE INPUT: true; the input reads as it did. -/
def fnVerdictTextJoinAtAnyCutSpec : ChangeSpec := { name := "fnVerdictTextJoinAtAnyCut", fn := fun _ => fun
  | [d1, d2, d3, d4] => { results := [.lit (.bool true)], args := [d1, d2, d3, d4] }
  | _ => none }
def fnVerdictTextJoinAtAnyCutRow : OpenClaim := { program := "qxb6621708a", sum := "2eb22116e79afb5f0ec68777a4a60fe293327ce2be0bed8c809a273abf098799", func := "example.com/custodex/custodex/zzlaws_instruction_b1.FnVerdictTextJoinAtAnyCut", spec := "fnVerdictTextJoinAtAnyCut", inPlace := ["internal/abi.NoEscape", "internal/bytealg.MakeNoZero"], apart := false }
def FnVerdictTextJoinAtAnyCutSaid : Prop := fnVerdictTextJoinAtAnyCutRow.holds Try.pinned (OpenSpec.ofChange fnVerdictTextJoinAtAnyCutSpec)

/-- ITS FALSE NEIGHBOUR: 'it returns false'. Refute it at one input. -/
def fnVerdictTextJoinAtAnyCutWrong : ChangeSpec := { name := "fnVerdictTextJoinAtAnyCut", fn := fun _ => fun
  | [d1, d2, d3, d4] => { results := [.lit (.bool false)], args := [d1, d2, d3, d4] }
  | _ => none }
def FnVerdictTextJoinAtAnyCutWrongFalsely : Prop := fnVerdictTextJoinAtAnyCutRow.holds Try.pinned (OpenSpec.ofChange fnVerdictTextJoinAtAnyCutWrong)

/-- 'zzlaws_instruction_b1.FnVerdictTextTellsVerdictsApart': WHATEVER THE INPUT: true; the input reads as it did. -/
def fnVerdictTextTellsVerdictsApartSpec : ChangeSpec := { name := "fnVerdictTextTellsVerdictsApart", fn := fun _ => fun
  | [d1, d2, d3, d4, d5, d6] => { results := [.lit (.bool true)], args := [d1, d2, d3, d4, d5, d6] }
  | _ => none }
def fnVerdictTextTellsVerdictsApartRow : OpenClaim := { program := "qxb6621708a", sum := "2eb22116e79afb5f0ec68777a4a60fe293327ce2be0bed8c809a273abf098799", func := "example.com/custodex/custodex/zzlaws_instruction_b1.FnVerdictTextTellsVerdictsApart", spec := "fnVerdictTextTellsVerdictsApart", inPlace := ["internal/abi.NoEscape", "internal/bytealg.MakeNoZero"], apart := false }
def FnVerdictTextTellsVerdictsApartSaid : Prop := fnVerdictTextTellsVerdictsApartRow.holds Try.pinned (OpenSpec.ofChange fnVerdictTextTellsVerdictsApartSpec)

/-- ITS FALSE NEIGHBOUR: 'it returns false'. Refute it at one input. -/
def fnVerdictTextTellsVerdictsApartWrong : ChangeSpec := { name := "fnVerdictTextTellsVerdictsApart", fn := fun _ => fun
  | [d1, d2, d3, d4, d5, d6] => { results := [.lit (.bool false)], args := [d1, d2, d3, d4, d5, d6] }
  | _ => none }
def FnVerdictTextTellsVerdictsApartWrongFalsely : Prop := fnVerdictTextTellsVerdictsApartRow.holds Try.pinned (OpenSpec.ofChange fnVerdictTextTellsVerdictsApartWrong)

end Rows
end Go.Proofs.Qxb6621708a
