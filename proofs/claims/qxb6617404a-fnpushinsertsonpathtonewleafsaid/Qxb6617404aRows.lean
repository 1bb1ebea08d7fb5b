/-
  No cell of these rows narrows 'for every input' (looked for: loops, veiled, ifaces, maps, wideKeys, modest, calm, conditions, laid).
  DERIVED. THE GIVEN ROWS OF THIS SEAT. 3 by the template 'for every input the law returns true; each argument reads behind the call as it read before'; 0 by the template 'total and deterministic' (their statements: Qxb6617404aTotals.lean).
  GIVEN WITH THE SEED: the statements are not yours to turn. If you find one false, say at which input.
  Laid BY PROGRAM, IN A SANDBOX (cutbox-rows.mjs): the forced cells as the released guide's own fill.sh prints them over the translation 343c491c9d46c561… (all of the seat's roots in one cut). By AI agents, Wed Nov 11 2026. No macro, syntax, notation, axiom, sorry.
-/
import Derived.Test.Qxb6617404aChecked
import GoSem.Claim
import GoSem.ClaimJoined
import GoSem.ClaimMapViews
import Derived.JoinedTies
import Derived.KernelRfl
namespace Go.Proofs.Qxb6617404a
/- THE CELL 'sum', in the pinned program and in every row, IS THE sha256 OF THE DUMP (.gsa) THAT Qxb6617404aProg.lean LOADS. Nothing in Lean hashes anything: it is a label: what it is worth is what the hold of that sum in a sandbox is worth. -/
noncomputable def Try.pinned : Pinned := { name := "qxb6617404a", sum := "343c491c9d46c561b566d4e0e6de6789d3cc9530e59b6c6d3a801d49932925ac", checked := Try.checked }
namespace Rows
def none {H : Type} : Left H := { results := [], args := [] }

/-- 'zzlaws_hnsw_b1.FnHeapPopsSortedAfterPushes': WHATEVER THE INPUT: true; the input reads as it did. -/
def fnHeapPopsSortedAfterPushesSpec : ChangeSpec := { name := "fnHeapPopsSortedAfterPushes", fn := fun _ => fun
  | [d1, d2] => { results := [.lit (.bool true)], args := [d1, d2] }
  | _ => none }
def fnHeapPopsSortedAfterPushesRow : OpenClaim := { program := "qxb6617404a", sum := "343c491c9d46c561b566d4e0e6de6789d3cc9530e59b6c6d3a801d49932925ac", func := "example.com/mynah/mynah/zzlaws_hnsw_b1.FnHeapPopsSortedAfterPushes", spec := "fnHeapPopsSortedAfterPushes", apart := false }
def FnHeapPopsSortedAfterPushesSaid : Prop := fnHeapPopsSortedAfterPushesRow.holds Try.pinned (OpenSpec.ofChange fnHeapPopsSortedAfterPushesSpec)

/-- ITS FALSE NEIGHBOUR: 'it returns false'. Refute it at one input. -/
def fnHeapPopsSortedAfterPushesWrong : ChangeSpec := { name := "fnHeapPopsSortedAfterPushes", fn := fun _ => fun
  | [d1, d2] => { results := [.lit (.bool false)], args := [d1, d2] }
  | _ => none }
def FnHeapPopsSortedAfterPushesWrongFalsely : Prop := fnHeapPopsSortedAfterPushesRow.holds Try.pinned (OpenSpec.ofChange fnHeapPopsSortedAfterPushesWrong)

/-- 'zzlaws_hnsw_b1.FnPushInsertsOnPathToNewLeaf': WHATEVER THE INPUT: true; the input reads as it did. -/
def fnPushInsertsOnPathToNewLeafSpec : ChangeSpec := { name := "fnPushInsertsOnPathToNewLeaf", fn := fun _ => fun
  | [d1, d2, d3] => { results := [.lit (.bool true)], args := [d1, d2, d3] }
  | _ => none }
def fnPushInsertsOnPathToNewLeafRow : OpenClaim := { program := "qxb6617404a", sum := "343c491c9d46c561b566d4e0e6de6789d3cc9530e59b6c6d3a801d49932925ac", func := "example.com/mynah/mynah/zzlaws_hnsw_b1.FnPushInsertsOnPathToNewLeaf", spec := "fnPushInsertsOnPathToNewLeaf", apart := false }
def FnPushInsertsOnPathToNewLeafSaid : Prop := fnPushInsertsOnPathToNewLeafRow.holds Try.pinned (OpenSpec.ofChange fnPushInsertsOnPathToNewLeafSpec)

/-- ITS FALSE NEIGHBOUR: 'it returns false'. Refute it at one input. -/
def fnPushInsertsOnPathToNewLeafWrong : ChangeSpec := { name := "fnPushInsertsOnPathToNewLeaf", fn := fun _ => fun
  | [d1, d2, d3] => { results := [.lit (.bool false)], args := [d1, d2, d3] }
  | _ => none }
def FnPushInsertsOnPathToNewLeafWrongFalsely : Prop := fnPushInsertsOnPathToNewLeafRow.holds Try.pinned (OpenSpec.ofChange fnPushInsertsOnPathToNewLeafWrong)

/-- 'zzlaws_hnsw_b1.FnPopTakesFirstAndKeepsHeap': WHATEVER THE INPUT: true; the input reads as it did. -/
def fnPopTakesFirstAndKeepsHeapSpec : ChangeSpec := { name := "fnPopTakesFirstAndKeepsHeap", fn := fun _ => fun
  | [d1, d2] => { results := [.lit (.bool true)], args := [d1, d2] }
  | _ => none }
def fnPopTakesFirstAndKeepsHeapRow : OpenClaim := { program := "qxb6617404a", sum := "343c491c9d46c561b566d4e0e6de6789d3cc9530e59b6c6d3a801d49932925ac", func := "example.com/mynah/mynah/zzlaws_hnsw_b1.FnPopTakesFirstAndKeepsHeap", spec := "fnPopTakesFirstAndKeepsHeap", apart := false }
def FnPopTakesFirstAndKeepsHeapSaid : Prop := fnPopTakesFirstAndKeepsHeapRow.holds Try.pinned (OpenSpec.ofChange fnPopTakesFirstAndKeepsHeapSpec)

/-- ITS FALSE NEIGHBOUR: 'it returns false'. Refute it at one input. -/
def fnPopTakesFirstAndKeepsHeapWrong : ChangeSpec := { name := "fnPopTakesFirstAndKeepsHeap", fn := fun _ => fun
  | [d1, d2] => { results := [.lit (.bool false)], args := [d1, d2] }
  | _ => none }
def FnPopTakesFirstAndKeepsHeapWrongFalsely : Prop := fnPopTakesFirstAndKeepsHeapRow.holds Try.pinned (OpenSpec.ofChange fnPopTakesFirstAndKeepsHeapWrong)

end Rows
end Go.Proofs.Qxb6617404a
