/-
  No cell of these rows narrows 'for every input' (looked for: loops, veiled, ifaces, maps, wideKeys, modest, calm, conditions, laid).
  DERIVED. THE GIVEN ROWS OF THIS SEAT. 3 by the template 'for every input the law returns true; each argument reads behind the call as it read before'; 0 by the template 'total and deterministic' (their statements: YbulkaobiTotals.lean).
  GIVEN WITH THE SEED: the statements are not yours to turn. If you find one false, say at which input.
  Laid BY PROGRAM, IN A SANDBOX (cutbox-rows.mjs): the forced cells as the released guide's own fill.sh prints them over the translation 90f75034d546475d… (all of the seat's roots in one cut). By AI agents, Wed Nov 11 2026. No macro, syntax, notation, axiom, sorry.
-/
import Derived.Test.YbulkaobiChecked
import GoSem.Claim
import GoSem.ClaimJoined
import GoSem.ClaimMapViews
import Derived.JoinedTies
import Derived.KernelRfl
namespace Go.Proofs.Ybulkaobi
/- THE CELL 'sum', in the pinned program and in every row, IS THE sha256 OF THE DUMP (.gsa) THAT YbulkaobiProg.lean LOADS. Nothing in Lean hashes anything: it is a label: what it is worth is what the hold of that sum in a sandbox is worth. -/
noncomputable def Yba.pinned : Pinned := { name := "ybulkaobi", sum := "90f75034d546475dfbc8c4e7155f49a146d699351fb76badaf1016ae9da44906", checked := Yba.checked }
namespace Rows
def none {H : Type} : Left H := { results := [], args := [] }

/-- 'home.LawS1984BCount': WHATEVER THE INPUT: true; the input reads as it did. -/
def lawS1984BCountSpec : ChangeSpec := { name := "lawS1984BCount", fn := fun _ => fun
  | [d1, d2, d3, d4, d5, d6, d7] => { results := [.lit (.bool true)], args := [d1, d2, d3, d4, d5, d6, d7] }
  | _ => none }
def lawS1984BCountRow : OpenClaim := { program := "ybulkaobi", sum := "90f75034d546475dfbc8c4e7155f49a146d699351fb76badaf1016ae9da44906", func := "example.com/quorumweave/quorumweave/internal/home.LawS1984BCount", spec := "lawS1984BCount", plainKeys := false, apart := false }
def LawS1984BCountSaid : Prop := lawS1984BCountRow.holds Yba.pinned (OpenSpec.ofChange lawS1984BCountSpec)

/-- ITS FALSE NEIGHBOUR: 'it returns false'. Refute it at one input. -/
def lawS1984BCountWrong : ChangeSpec := { name := "lawS1984BCount", fn := fun _ => fun
  | [d1, d2, d3, d4, d5, d6, d7] => { results := [.lit (.bool false)], args := [d1, d2, d3, d4, d5, d6, d7] }
  | _ => none }
def LawS1984BCountWrongFalsely : Prop := lawS1984BCountRow.holds Yba.pinned (OpenSpec.ofChange lawS1984BCountWrong)

/-- 'home.LawS1984BRelayGap': WHATEVER THE INPUT: true; the input reads as it did. -/
def lawS1984BRelayGapSpec : ChangeSpec := { name := "lawS1984BRelayGap", fn := fun _ => fun
  | [d1, d2] => { results := [.lit (.bool true)], args := [d1, d2] }
  | _ => none }
def lawS1984BRelayGapRow : OpenClaim := { program := "ybulkaobi", sum := "90f75034d546475dfbc8c4e7155f49a146d699351fb76badaf1016ae9da44906", func := "example.com/quorumweave/quorumweave/internal/home.LawS1984BRelayGap", spec := "lawS1984BRelayGap", plainKeys := false, apart := false }
def LawS1984BRelayGapSaid : Prop := lawS1984BRelayGapRow.holds Yba.pinned (OpenSpec.ofChange lawS1984BRelayGapSpec)

/-- ITS FALSE NEIGHBOUR: 'it returns false'. Refute it at one input. -/
def lawS1984BRelayGapWrong : ChangeSpec := { name := "lawS1984BRelayGap", fn := fun _ => fun
  | [d1, d2] => { results := [.lit (.bool false)], args := [d1, d2] }
  | _ => none }
def LawS1984BRelayGapWrongFalsely : Prop := lawS1984BRelayGapRow.holds Yba.pinned (OpenSpec.ofChange lawS1984BRelayGapWrong)

/-- 'explore.LawS1984CSteps': WHATEVER THE INPUT: true; the input reads as it did. -/
def lawS1984CStepsSpec : ChangeSpec := { name := "lawS1984CSteps", fn := fun _ => fun
  | [d1, d2, d3, d4, d5, d6] => { results := [.lit (.bool true)], args := [d1, d2, d3, d4, d5, d6] }
  | _ => none }
def lawS1984CStepsRow : OpenClaim := { program := "ybulkaobi", sum := "90f75034d546475dfbc8c4e7155f49a146d699351fb76badaf1016ae9da44906", func := "example.com/quorumweave/quorumweave/internal/explore.LawS1984CSteps", spec := "lawS1984CSteps", plainKeys := false, apart := false }
def LawS1984CStepsSaid : Prop := lawS1984CStepsRow.holds Yba.pinned (OpenSpec.ofChange lawS1984CStepsSpec)

/-- ITS FALSE NEIGHBOUR: 'it returns false'. Refute it at one input. -/
def lawS1984CStepsWrong : ChangeSpec := { name := "lawS1984CSteps", fn := fun _ => fun
  | [d1, d2, d3, d4, d5, d6] => { results := [.lit (.bool false)], args := [d1, d2, d3, d4, d5, d6] }
  | _ => none }
def LawS1984CStepsWrongFalsely : Prop := lawS1984CStepsRow.holds Yba.pinned (OpenSpec.ofChange lawS1984CStepsWrong)

end Rows
end Go.Proofs.Ybulkaobi
