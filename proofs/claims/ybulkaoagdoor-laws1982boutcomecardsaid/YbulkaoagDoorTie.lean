/-
  DERIVED. GIVEN WITH THE SEED: THE PROGRAM's TIES (one call each: nine closed facts by the kernel) AND EACH ROW's TIE, after the 31st guide's Derived/Test/Toyas{Tie, Card}.lean. No idea stands in it: it is a product of the set-up. Laid BY PROGRAM, IN A SANDBOX (cutbox-door.mjs). By AI agents, Wed Nov 11 2026. No macro, syntax, notation, axiom, sorry.
-/
import Derived.Test.YbulkaoagDoorRows
import Derived.LaidByTextLater
import Derived.SevenTiedAt
import Derived.LaidSub
import Derived.LaidOnce
namespace Go.Proofs.YbulkaoagDoor
open Go
set_option maxRecDepth 100000
theorem seatTie1 : Ybad.prog.laidByTextLater [("example.com/rumorwire/rumorwire.errNoKeyring", Rows.laid_example_com_rumorwire_rumorwire_errNoKeyring), ("example.com/rumorwire/rumorwire.ErrClosed", Rows.laid_example_com_rumorwire_rumorwire_ErrClosed)] [.sentinel, .sentinel] true :=
  Program.laidByTextLater_by_one 47 8 2 (by kernel_rfl) (by kernel_rfl) (by kernel_rfl) (by kernel_rfl) (by kernel_rfl) (by kernel_rfl) (fun _ _ => by kernel_rfl)
theorem noOwnUnsafe : Ybad.pinned.checked.prog.headLifts.contains "ownunsafe" = false := by kernel_rfl
theorem tie : Ybad.prog.laidByTextLater [("example.com/rumorwire/rumorwire.errNoKeyring", Rows.laid_example_com_rumorwire_rumorwire_errNoKeyring), ("example.com/rumorwire/rumorwire.ErrClosed", Rows.laid_example_com_rumorwire_rumorwire_ErrClosed)] [.sentinel, .sentinel] true :=
  Program.laidByTextLater.sub seatTie1 ["example.com/rumorwire/rumorwire.errNoKeyring", "example.com/rumorwire/rumorwire.ErrClosed"] (by kernel_rfl) (by kernel_rfl)
theorem lawS1982BOutcome_row_tie : Rows.lawS1982BOutcomeRow.laidByTextAt .later Ybad.pinned [.sentinel, .sentinel] true :=
  OpenClaim.laidByTextAt_later rfl rfl tie noOwnUnsafe
end Go.Proofs.YbulkaoagDoor
