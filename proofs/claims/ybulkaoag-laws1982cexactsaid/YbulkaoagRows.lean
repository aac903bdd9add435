/-
  No cell of these rows narrows 'for every input' (looked for: loops, veiled, ifaces, maps, wideKeys, modest, calm, conditions, laid).
  DERIVED. THE GIVEN ROWS OF THIS SEAT. 2 by the template 'for every input the law returns true; each argument reads behind the call as it read before'; 0 by the template 'total and deterministic' (their statements: YbulkaoagTotals.lean).
  GIVEN WITH THE SEED: the statements are not yours to turn. If you find one false, say at which input.
  Laid BY PROGRAM, IN A SANDBOX (cutbox-rows.mjs): the forced cells as the released guide's own fill.sh prints them over the translation 4b8a48735a2b54aa… (all of the seat's roots in one cut). By AI agents, Wed Nov 11 2026. No macro, syntax, notation, axiom, sorry.
-/
import Derived.Test.YbulkaoagChecked
import GoSem.Claim
import GoSem.ClaimJoined
import GoSem.ClaimMapViews
import Derived.JoinedTies
import Derived.KernelRfl
namespace Go.Proofs.Ybulkaoag
/- THE CELL 'sum', in the pinned program and in every row, IS THE sha256 OF THE DUMP (.gsa) THAT YbulkaoagProg.lean LOADS. Nothing in Lean hashes anything: it is a label: what it is worth is what the hold of that sum in a sandbox is worth. -/
noncomputable def Yba.pinned : Pinned := { name := "ybulkaoag", sum := "4b8a48735a2b54aa17cf783da6b20bb0f9fdc27145664ce1411eda98e4666643", checked := Yba.checked }
namespace Rows
def none {H : Type} : Left H := { results := [], args := [] }

/-- 'swim.LawS1982CExact': WHATEVER THE INPUT: true; the input reads as it did. -/
def lawS1982CExactSpec : ChangeSpec := { name := "lawS1982CExact", fn := fun _ => fun
  | [d1, d2, d3, d4, d5, d6, d7, d8, d9] => { results := [.lit (.bool true)], args := [d1, d2, d3, d4, d5, d6, d7, d8, d9] }
  | _ => none }
def lawS1982CExactRow : OpenClaim := { program := "ybulkaoag", sum := "4b8a48735a2b54aa17cf783da6b20bb0f9fdc27145664ce1411eda98e4666643", func := "example.com/rumorwire/rumorwire/internal/swim.LawS1982CExact", spec := "lawS1982CExact", apart := false }
def LawS1982CExactSaid : Prop := lawS1982CExactRow.holds Yba.pinned (OpenSpec.ofChange lawS1982CExactSpec)

/-- ITS FALSE NEIGHBOUR: 'it returns false'. Refute it at one input. -/
def lawS1982CExactWrong : ChangeSpec := { name := "lawS1982CExact", fn := fun _ => fun
  | [d1, d2, d3, d4, d5, d6, d7, d8, d9] => { results := [.lit (.bool false)], args := [d1, d2, d3, d4, d5, d6, d7, d8, d9] }
  | _ => none }
def LawS1982CExactWrongFalsely : Prop := lawS1982CExactRow.holds Yba.pinned (OpenSpec.ofChange lawS1982CExactWrong)

/-- 'swim.LawS1982COrder': WHATEVER THE INPUT: true; the input reads as it did. -/
def lawS1982COrderSpec : ChangeSpec := { name := "lawS1982COrder", fn := fun _ => fun
  | [d1, d2, d3, d4, d5, d6] => { results := [.lit (.bool true)], args := [d1, d2, d3, d4, d5, d6] }
  | _ => none }
def lawS1982COrderRow : OpenClaim := { program := "ybulkaoag", sum := "4b8a48735a2b54aa17cf783da6b20bb0f9fdc27145664ce1411eda98e4666643", func := "example.com/rumorwire/rumorwire/internal/swim.LawS1982COrder", spec := "lawS1982COrder", apart := false }
def LawS1982COrderSaid : Prop := lawS1982COrderRow.holds Yba.pinned (OpenSpec.ofChange lawS1982COrderSpec)

/-- ITS FALSE NEIGHBOUR: 'it returns false'. Refute it at one input. -/
def lawS1982COrderWrong : ChangeSpec := { name := "lawS1982COrder", fn := fun _ => fun
  | [d1, d2, d3, d4, d5, d6] => { results := [.lit (.bool false)], args := [d1, d2, d3, d4, d5, d6] }
  | _ => none }
def LawS1982COrderWrongFalsely : Prop := lawS1982COrderRow.holds Yba.pinned (OpenSpec.ofChange lawS1982COrderWrong)

end Rows
end Go.Proofs.Ybulkaoag
