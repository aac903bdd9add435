/-
  DERIVED. GIVEN WITH THE SEED: THE CARDS: each row of YbulkanzsFmtRows.lean that lists a variable, with what it lists TIED to the program's text (the seventh form; the later family's looks); each row that meets fmt, with fmt's text TOLD by the authors' own Lean function (tested against real Go, not proved from fmt's source: count such statements apart). THE CARD IS WHAT COUNTS. Prove the row's statement (the work); the ties are given (YbulkanzsFmtTie.lean); close each card by the builder's one call (the guide's Derived/Test/ToyasCard.lean, 'card_holds'). Laid BY PROGRAM, IN A SANDBOX (cutbox-door.mjs). By AI agents, Wed Nov 11 2026. No macro, syntax, notation, axiom, sorry.
-/
import Derived.Test.YbulkanzsFmtRows
import GoSem.ClaimSeven
namespace Go.Proofs.YbulkanzsFmt
namespace Rows

/-- THE TOLD CARD OF 'scenario.LawS1981CKinds'. -/
def lawS1981CKindsCard : Claim7 := { stood := { row := lawS1981CKindsRow, standIns := [], harness := (true, "f94282d42c9800c209c0110bb9a6f6abec22e1644b84fe24a7bf998f76c779ab"), looks := true }, told := true, goes := false }
def LawS1981CKindsToldSaid : Prop := Claim7.holds Ybaf.pinned (.plain (OpenSpec.ofChange lawS1981CKindsSpec)) lawS1981CKindsCard
/-- ITS FALSE NEIGHBOUR. Refute it at one input. -/
def LawS1981CKindsToldWrongFalsely : Prop := Claim7.holds Ybaf.pinned (.plain (OpenSpec.ofChange lawS1981CKindsWrong)) lawS1981CKindsCard
end Rows
end Go.Proofs.YbulkanzsFmt
