/-
  DERIVED. GIVEN WITH THE SEED: THE CARDS: each row of Qxb6619421aDoorRows.lean that lists a variable, with what it lists TIED to the program's text (the seventh form; the later family's looks); each row that meets fmt, with fmt's text TOLD by the authors' own Lean function (tested against real Go, not proved from fmt's source: count such statements apart). THE CARD IS WHAT COUNTS. Prove the row's statement (the work); the ties are given (Qxb6619421aDoorTie.lean); close each card by the builder's one call (the guide's Derived/Test/ToyasCard.lean, 'card_holds'). Laid BY PROGRAM, IN A SANDBOX (cutbox-door.mjs). By AI agents, Wed Nov 11 2026. No macro, syntax, notation, axiom, sorry.
-/
import Derived.Test.Qxb6619421aDoorRows
import GoSem.ClaimSeven
namespace Go.Proofs.Qxb6619421aDoor
namespace Rows

/-- THE TIED CARD OF 'zzlaws_internal_wire_b1.FnKindStringInjectiveAndReadsBack'. -/
def fnKindStringInjectiveAndReadsBackCard : Claim7 := { stood := { row := fnKindStringInjectiveAndReadsBackRow, standIns := [], harness := (true, "8964e842b3974d113c020262fe6a4cdbbf781c6ae93b93a6cf35e80485c1feca"), looks := false }, kinds := [], alts := [], laidByText := true, laidKinds := [.data, .data, .data], laidTests := true, laidLooks := .later }
def FnKindStringInjectiveAndReadsBackCardSaid : Prop := Claim7.holds Tryd.pinned (.plain (OpenSpec.ofChange fnKindStringInjectiveAndReadsBackSpec)) fnKindStringInjectiveAndReadsBackCard
end Rows
end Go.Proofs.Qxb6619421aDoor
