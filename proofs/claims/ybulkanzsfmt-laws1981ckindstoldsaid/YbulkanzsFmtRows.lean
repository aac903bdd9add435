/-
  No cell of these rows narrows 'for every input' (looked for: loops, veiled, ifaces, maps, wideKeys, modest, calm, conditions, laid).
  DERIVED. THE GIVEN ROWS OF THIS SEAT. 1 by the template 'for every input the law returns true; each argument reads behind the call as it read before'; 0 by the template 'total and deterministic' (their statements: YbulkanzsFmtTotals.lean).
  GIVEN WITH THE SEED: the statements are not yours to turn. If you find one false, say at which input.
  Laid BY PROGRAM, IN A SANDBOX (cutbox-rows.mjs): the forced cells as the released guide's own fill.sh prints them over the translation b76a4d28b8de0b3f… (all of the seat's roots in one cut). By AI agents, Wed Nov 11 2026. No macro, syntax, notation, axiom, sorry.
-/
import Derived.Test.YbulkanzsFmtChecked
import GoSem.Claim
import GoSem.ClaimJoined
import GoSem.ClaimMapViews
import Derived.JoinedTies
import Derived.KernelRfl
namespace Go.Proofs.YbulkanzsFmt
/- THE CELL 'sum', in the pinned program and in every row, IS THE sha256 OF THE DUMP (.gsa) THAT YbulkanzsFmtProg.lean LOADS. Nothing in Lean hashes anything: it is a label: what it is worth is what the hold of that sum in a sandbox is worth. -/
noncomputable def Ybaf.pinned : Pinned := { name := "ybulkanzsfmt", sum := "b76a4d28b8de0b3f8582943d381f5a263faee08efeffd2b2aa69068554ec126b", checked := Ybaf.checked }
namespace Rows
def none {H : Type} : Left H := { results := [], args := [] }

/-- 'scenario.LawS1981CKinds': WHATEVER THE INPUT: true; the input reads as it did. -/
def lawS1981CKindsSpec : ChangeSpec := { name := "lawS1981CKinds", fn := fun _ => fun
  | [d1, d2, d3, d4, d5] => { results := [.lit (.bool true)], args := [d1, d2, d3, d4, d5] }
  | _ => none }
def lawS1981CKindsRow : OpenClaim := { program := "ybulkanzsfmt", sum := "b76a4d28b8de0b3f8582943d381f5a263faee08efeffd2b2aa69068554ec126b", func := "example.com/epochal/epochal/scenario.LawS1981CKinds", spec := "lawS1981CKinds", stops := ["fmt.Sprintf, its operands' methods called"], inPlace := ["fmt.Sprintf"], unfollowed := true, recurses := true, apart := false }
/-- NO THEOREM (fmt's text is open here; it may be false): for the released tool's asking of the row's closed facts alone. THE STATEMENT IS 'LawS1981CKindsToldSaid' (YbulkanzsFmtCards.lean). -/
def LawS1981CKindsFormAsk : Prop := lawS1981CKindsRow.holds Ybaf.pinned (OpenSpec.ofChange lawS1981CKindsSpec)

/-- ITS FALSE NEIGHBOUR: 'it returns false'. Refute it at one input. -/
def lawS1981CKindsWrong : ChangeSpec := { name := "lawS1981CKinds", fn := fun _ => fun
  | [d1, d2, d3, d4, d5] => { results := [.lit (.bool false)], args := [d1, d2, d3, d4, d5] }
  | _ => none }
def LawS1981CKindsWrongFormAsk : Prop := lawS1981CKindsRow.holds Ybaf.pinned (OpenSpec.ofChange lawS1981CKindsWrong)

end Rows
end Go.Proofs.YbulkanzsFmt
