/-
  No cell of these rows narrows 'for every input' (looked for: loops, veiled, ifaces, maps, wideKeys, modest, calm, conditions, laid).
  DERIVED. THE GIVEN ROWS OF THIS SEAT. 3 by the template 'for every input the law returns true; each argument reads behind the call as it read before'; 0 by the template 'total and deterministic' (their statements: YbulkanzsTotals.lean).
  GIVEN WITH THE SEED: the statements are not yours to turn. If you find one false, say at which input.
  Laid BY PROGRAM, IN A SANDBOX (cutbox-rows.mjs): the forced cells as the released guide's own fill.sh prints them over the translation ddf6463f6fa6d49c… (all of the seat's roots in one cut). By AI agents, Wed Nov 11 2026. No macro, syntax, notation, axiom, sorry.
-/
import Derived.Test.YbulkanzsChecked
import GoSem.Claim
import GoSem.ClaimJoined
import GoSem.ClaimMapViews
import Derived.JoinedTies
import Derived.KernelRfl
namespace Go.Proofs.Ybulkanzs
/- THE CELL 'sum', in the pinned program and in every row, IS THE sha256 OF THE DUMP (.gsa) THAT YbulkanzsProg.lean LOADS. Nothing in Lean hashes anything: it is a label: what it is worth is what the hold of that sum in a sandbox is worth. -/
noncomputable def Yba.pinned : Pinned := { name := "ybulkanzs", sum := "ddf6463f6fa6d49c19992ecaed2ed100f78f511f7edc699e4e7de50f5725dbae", checked := Yba.checked }
namespace Rows
def none {H : Type} : Left H := { results := [], args := [] }

/-- 'chain.LawS1981AReplay': WHATEVER THE INPUT: true; the input reads as it did. -/
def lawS1981AReplaySpec : ChangeSpec := { name := "lawS1981AReplay", fn := fun _ => fun
  | [d1, d2, d3, d4, d5, d6, d7] => { results := [.lit (.bool true)], args := [d1, d2, d3, d4, d5, d6, d7] }
  | _ => none }
def lawS1981AReplayRow : OpenClaim := { program := "ybulkanzs", sum := "ddf6463f6fa6d49c19992ecaed2ed100f78f511f7edc699e4e7de50f5725dbae", func := "example.com/epochal/epochal/chain.LawS1981AReplay", spec := "lawS1981AReplay", unfollowed := true, recurses := true, apart := false }
def LawS1981AReplaySaid : Prop := lawS1981AReplayRow.holds Yba.pinned (OpenSpec.ofChange lawS1981AReplaySpec)

/-- ITS FALSE NEIGHBOUR: 'it returns false'. Refute it at one input. -/
def lawS1981AReplayWrong : ChangeSpec := { name := "lawS1981AReplay", fn := fun _ => fun
  | [d1, d2, d3, d4, d5, d6, d7] => { results := [.lit (.bool false)], args := [d1, d2, d3, d4, d5, d6, d7] }
  | _ => none }
def LawS1981AReplayWrongFalsely : Prop := lawS1981AReplayRow.holds Yba.pinned (OpenSpec.ofChange lawS1981AReplayWrong)

/-- 'chain.LawS1981BValidators': WHATEVER THE INPUT: true; the input reads as it did. -/
def lawS1981BValidatorsSpec : ChangeSpec := { name := "lawS1981BValidators", fn := fun _ => fun
  | [d1, d2] => { results := [.lit (.bool true)], args := [d1, d2] }
  | _ => none }
def lawS1981BValidatorsRow : OpenClaim := { program := "ybulkanzs", sum := "ddf6463f6fa6d49c19992ecaed2ed100f78f511f7edc699e4e7de50f5725dbae", func := "example.com/epochal/epochal/chain.LawS1981BValidators", spec := "lawS1981BValidators", apart := false }
def LawS1981BValidatorsSaid : Prop := lawS1981BValidatorsRow.holds Yba.pinned (OpenSpec.ofChange lawS1981BValidatorsSpec)

/-- ITS FALSE NEIGHBOUR: 'it returns false'. Refute it at one input. -/
def lawS1981BValidatorsWrong : ChangeSpec := { name := "lawS1981BValidators", fn := fun _ => fun
  | [d1, d2] => { results := [.lit (.bool false)], args := [d1, d2] }
  | _ => none }
def LawS1981BValidatorsWrongFalsely : Prop := lawS1981BValidatorsRow.holds Yba.pinned (OpenSpec.ofChange lawS1981BValidatorsWrong)

/-- 'chain.LawS1981BChainState': WHATEVER THE INPUT: true; the input reads as it did. -/
def lawS1981BChainStateSpec : ChangeSpec := { name := "lawS1981BChainState", fn := fun _ => fun
  | [d1, d2] => { results := [.lit (.bool true)], args := [d1, d2] }
  | _ => none }
def lawS1981BChainStateRow : OpenClaim := { program := "ybulkanzs", sum := "ddf6463f6fa6d49c19992ecaed2ed100f78f511f7edc699e4e7de50f5725dbae", func := "example.com/epochal/epochal/chain.LawS1981BChainState", spec := "lawS1981BChainState", apart := false }
def LawS1981BChainStateSaid : Prop := lawS1981BChainStateRow.holds Yba.pinned (OpenSpec.ofChange lawS1981BChainStateSpec)

/-- ITS FALSE NEIGHBOUR: 'it returns false'. Refute it at one input. -/
def lawS1981BChainStateWrong : ChangeSpec := { name := "lawS1981BChainState", fn := fun _ => fun
  | [d1, d2] => { results := [.lit (.bool false)], args := [d1, d2] }
  | _ => none }
def LawS1981BChainStateWrongFalsely : Prop := lawS1981BChainStateRow.holds Yba.pinned (OpenSpec.ofChange lawS1981BChainStateWrong)

end Rows
end Go.Proofs.Ybulkanzs
