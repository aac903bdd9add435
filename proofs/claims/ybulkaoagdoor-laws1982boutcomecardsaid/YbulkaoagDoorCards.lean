/-
  DERIVED. GIVEN WITH THE SEED: THE CARDS: each row of YbulkaoagDoorRows.lean that lists a variable, with what it lists TIED to the program's text (the seventh form; the later family's looks); each row that meets fmt, with fmt's text TOLD by the authors' own Lean function (tested against real Go, not proved from fmt's source: count such statements apart). THE CARD IS WHAT COUNTS. Prove the row's statement (the work); the ties are given (YbulkaoagDoorTie.lean); close each card by the builder's one call (the guide's Derived/Test/ToyasCard.lean, 'card_holds'). Laid BY PROGRAM, IN A SANDBOX (cutbox-door.mjs). By AI agents, Wed Nov 11 2026. No macro, syntax, notation, axiom, sorry.
-/
import Derived.Test.YbulkaoagDoorRows
import GoSem.ClaimSeven
namespace Go.Proofs.YbulkaoagDoor
namespace Rows

/-- THE TIED CARD OF 'rumorwire.LawS1982BOutcome'. -/
def lawS1982BOutcomeCard : Claim7 := { stood := { row := lawS1982BOutcomeRow, standIns := [], harness := (true, "fb5a783e55355a56aa5b50509da8c908a148649899c3040ba962df2148dfdcf7"), looks := true }, kinds := [], alts := [], laidByText := true, laidKinds := [.sentinel, .sentinel], laidTests := true, laidLooks := .later }
def LawS1982BOutcomeCardSaid : Prop := Claim7.holds Ybad.pinned (.plain (OpenSpec.ofChange lawS1982BOutcomeSpec)) lawS1982BOutcomeCard
end Rows
end Go.Proofs.YbulkaoagDoor
