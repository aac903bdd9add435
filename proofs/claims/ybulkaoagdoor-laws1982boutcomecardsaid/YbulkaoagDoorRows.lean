/-
  NARROWER THAN 'FOR EVERY INPUT', by the rows' own cells (each row's printed sentence says how): LawS1982BOutcome: ifaces, laid.
  DERIVED. THE GIVEN ROWS OF THIS SEAT. 1 by the template 'for every input the law returns true; each argument reads behind the call as it read before'; 0 by the template 'total and deterministic' (their statements: YbulkaoagDoorTotals.lean).
  GIVEN WITH THE SEED: the statements are not yours to turn. If you find one false, say at which input.
  Laid BY PROGRAM, IN A SANDBOX (cutbox-rows.mjs): the forced cells as the released guide's own fill.sh prints them over the translation 15b97a4bfdbaad6c… (all of the seat's roots in one cut). By AI agents, Wed Nov 11 2026. No macro, syntax, notation, axiom, sorry.
-/
import Derived.Test.YbulkaoagDoorChecked
import GoSem.Claim
import GoSem.ClaimJoined
import GoSem.ClaimMapViews
import Derived.JoinedTies
import Derived.KernelRfl
namespace Go.Proofs.YbulkaoagDoor
/- THE CELL 'sum', in the pinned program and in every row, IS THE sha256 OF THE DUMP (.gsa) THAT YbulkaoagDoorProg.lean LOADS. Nothing in Lean hashes anything: it is a label: what it is worth is what the hold of that sum in a sandbox is worth. -/
noncomputable def Ybad.pinned : Pinned := { name := "ybulkaoagdoor", sum := "15b97a4bfdbaad6c847e4bed9487d993867a887fe829e2e6b75da77cc7e6d210", checked := Ybad.checked }
namespace Rows
def none {H : Type} : Left H := { results := [], args := [] }

/- WHAT THE LISTED PACKAGE-LEVEL VARIABLES READ AS WHEN THE CALL BEGINS. Each datum BY PROGRAM (the guide's laid-datum.mjs) off the statement by which the dump's own 'gosem.cut.vars' lays the variable. In a bare row this is a premise. The card (YbulkaoagDoorCards.lean) ties it to the program's text. -/
def laid_example_com_rumorwire_rumorwire_errNoKeyring {H : Type} : DataW H := .iface "*errors.errorString" (.ptr (.agg [.lit (.string [114, 117, 109, 111, 114, 119, 105, 114, 101, 58, 32, 116, 104, 101, 32, 109, 101, 109, 98, 101, 114, 32, 104, 97, 115, 32, 110, 111, 32, 107, 101, 121, 114, 105, 110, 103, 58, 32, 105, 116, 115, 32, 116, 114, 97, 102, 102, 105, 99, 32, 103, 111, 101, 115, 32, 105, 110, 32, 99, 108, 101, 97, 114])]))
def laid_example_com_rumorwire_rumorwire_ErrClosed {H : Type} : DataW H := .iface "*errors.errorString" (.ptr (.agg [.lit (.string [114, 117, 109, 111, 114, 119, 105, 114, 101, 58, 32, 109, 101, 109, 98, 101, 114, 32, 105, 115, 32, 115, 104, 117, 116, 32, 100, 111, 119, 110])]))

/-- 'rumorwire.LawS1982BOutcome': WHATEVER THE INPUT: true; the input reads as it did. -/
def lawS1982BOutcomeSpec : ChangeSpec := { name := "lawS1982BOutcome", vars := ["example.com/rumorwire/rumorwire.ErrClosed", "example.com/rumorwire/rumorwire.errNoKeyring"], fn := fun _ => fun
  | [d1, d2, g1, g2] => { results := [.lit (.bool true)], args := [d1, d2], vars := [g1, g2] }
  | _ => none }
def lawS1982BOutcomeRow : OpenClaim := { program := "ybulkaoagdoor", sum := "15b97a4bfdbaad6c847e4bed9487d993867a887fe829e2e6b75da77cc7e6d210", func := "example.com/rumorwire/rumorwire.LawS1982BOutcome", spec := "lawS1982BOutcome", unfollowed := true, recurses := true, named := ["example.com/rumorwire/rumorwire.ErrClosed", "example.com/rumorwire/rumorwire.errNoKeyring"], ifaces := true, apart := false, laid := [("example.com/rumorwire/rumorwire.errNoKeyring", laid_example_com_rumorwire_rumorwire_errNoKeyring), ("example.com/rumorwire/rumorwire.ErrClosed", laid_example_com_rumorwire_rumorwire_ErrClosed)] }
def LawS1982BOutcomeSaid : Prop := lawS1982BOutcomeRow.holds Ybad.pinned (OpenSpec.ofChange lawS1982BOutcomeSpec)

/-- ITS FALSE NEIGHBOUR: 'it returns false'. Refute it at one input. -/
def lawS1982BOutcomeWrong : ChangeSpec := { name := "lawS1982BOutcome", vars := ["example.com/rumorwire/rumorwire.ErrClosed", "example.com/rumorwire/rumorwire.errNoKeyring"], fn := fun _ => fun
  | [d1, d2, g1, g2] => { results := [.lit (.bool false)], args := [d1, d2], vars := [g1, g2] }
  | _ => none }
def LawS1982BOutcomeWrongFalsely : Prop := lawS1982BOutcomeRow.holds Ybad.pinned (OpenSpec.ofChange lawS1982BOutcomeWrong)

end Rows
end Go.Proofs.YbulkaoagDoor
