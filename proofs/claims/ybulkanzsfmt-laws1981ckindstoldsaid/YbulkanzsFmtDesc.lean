/-
  scenario.describe at the four dynamic types that the law hands it: a contract each. The road to fmt is never taken.
-/
import Derived.Test.YbulkanzsFmtRows
import Derived.WalkKit
import Derived.WalkSpells
import Derived.WalkLawsBesides
namespace Go.Proofs.YbulkanzsFmt
open Go.RowKit

def tNum : ByteArray := ⟨#[97, 32, 119, 104, 111, 108, 101, 32, 110, 117, 109, 98, 101, 114, 32, 102, 114, 111, 109, 32, 48, 32, 116, 111, 32, 49, 56, 52, 52, 54, 55, 52, 52, 48, 55, 51, 55, 48, 57, 53, 53, 49, 54, 49, 53]⟩
def tStr : ByteArray := ⟨#[97, 32, 115, 116, 114, 105, 110, 103]⟩
def tList : ByteArray := ⟨#[97, 32, 108, 105, 115, 116]⟩

theorem ta24_24 (v : Value) (w : World) : (Instr.typeAssert (.iface 24 v) 20 24 true).run Ybaf.prog w = .ok (.tuple #[v, .bool true]) w := by kernel_rfl
theorem ta24_25 (v : Value) (w : World) : (Instr.typeAssert (.iface 24 v) 20 25 true).run Ybaf.prog w = .ok (.tuple #[.pointer none, .bool false]) w := by kernel_rfl
theorem ta24_26 (v : Value) (w : World) : (Instr.typeAssert (.iface 24 v) 20 26 true).run Ybaf.prog w = .ok (.tuple #[.pointer none, .bool false]) w := by kernel_rfl
theorem ta24_30 (v : Value) (w : World) : (Instr.typeAssert (.iface 24 v) 20 30 true).run Ybaf.prog w = .ok (.tuple #[.pointer none, .bool false]) w := by kernel_rfl
theorem ta25_24 (v : Value) (w : World) : (Instr.typeAssert (.iface 25 v) 20 24 true).run Ybaf.prog w = .ok (.tuple #[.pointer none, .bool false]) w := by kernel_rfl
theorem ta25_25 (v : Value) (w : World) : (Instr.typeAssert (.iface 25 v) 20 25 true).run Ybaf.prog w = .ok (.tuple #[v, .bool true]) w := by kernel_rfl
theorem ta25_26 (v : Value) (w : World) : (Instr.typeAssert (.iface 25 v) 20 26 true).run Ybaf.prog w = .ok (.tuple #[.pointer none, .bool false]) w := by kernel_rfl
theorem ta25_30 (v : Value) (w : World) : (Instr.typeAssert (.iface 25 v) 20 30 true).run Ybaf.prog w = .ok (.tuple #[.pointer none, .bool false]) w := by kernel_rfl
theorem ta26_24 (v : Value) (w : World) : (Instr.typeAssert (.iface 26 v) 20 24 true).run Ybaf.prog w = .ok (.tuple #[.pointer none, .bool false]) w := by kernel_rfl
theorem ta26_25 (v : Value) (w : World) : (Instr.typeAssert (.iface 26 v) 20 25 true).run Ybaf.prog w = .ok (.tuple #[.pointer none, .bool false]) w := by kernel_rfl
theorem ta26_26 (v : Value) (w : World) : (Instr.typeAssert (.iface 26 v) 20 26 true).run Ybaf.prog w = .ok (.tuple #[v, .bool true]) w := by kernel_rfl
theorem ta26_30 (v : Value) (w : World) : (Instr.typeAssert (.iface 26 v) 20 30 true).run Ybaf.prog w = .ok (.tuple #[.pointer none, .bool false]) w := by kernel_rfl
theorem ta30_24 (v : Value) (w : World) : (Instr.typeAssert (.iface 30 v) 20 24 true).run Ybaf.prog w = .ok (.tuple #[.pointer none, .bool false]) w := by kernel_rfl
theorem ta30_25 (v : Value) (w : World) : (Instr.typeAssert (.iface 30 v) 20 25 true).run Ybaf.prog w = .ok (.tuple #[.pointer none, .bool false]) w := by kernel_rfl
theorem ta30_26 (v : Value) (w : World) : (Instr.typeAssert (.iface 30 v) 20 26 true).run Ybaf.prog w = .ok (.tuple #[.pointer none, .bool false]) w := by kernel_rfl
theorem ta30_30 (v : Value) (w : World) : (Instr.typeAssert (.iface 30 v) 20 30 true).run Ybaf.prog w = .ok (.tuple #[v, .bool true]) w := by kernel_rfl

set_option maxHeartbeats 400000 in
theorem desc24 (a : Option Addr) (w : World) :
    Calls Ybaf.prog 4 #[.iface 24 (.pointer a)] w fun e w' => e = .returned (.string tNum) ∧ w' = w := by
  have h24 := ta24_24
  have h25 := ta24_25
  go_enter Ybaf.func4, Ybaf.ntmps4
  go_wp2
  go_ret
  exact ⟨rfl, rfl⟩

set_option maxHeartbeats 400000 in
theorem desc25 (a : Option Addr) (w : World) :
    Calls Ybaf.prog 4 #[.iface 25 (.pointer a)] w fun e w' => e = .returned (.string tNum) ∧ w' = w := by
  have h24 := ta25_24
  have h25 := ta25_25
  go_enter Ybaf.func4, Ybaf.ntmps4
  go_wp2
  go_ret
  exact ⟨rfl, rfl⟩

set_option maxHeartbeats 400000 in
theorem desc26 (a : Option Addr) (w : World) :
    Calls Ybaf.prog 4 #[.iface 26 (.pointer a)] w fun e w' => e = .returned (.string tStr) ∧ w' = w := by
  have h24 := ta26_24
  have h25 := ta26_25
  have h26 := ta26_26
  go_enter Ybaf.func4, Ybaf.ntmps4
  go_wp2
  go_ret
  exact ⟨rfl, rfl⟩

set_option maxHeartbeats 400000 in
theorem desc30 (a : Option Addr) (w : World) :
    Calls Ybaf.prog 4 #[.iface 30 (.pointer a)] w fun e w' => e = .returned (.string tList) ∧ w' = w := by
  have h24 := ta30_24
  have h25 := ta30_25
  have h26 := ta30_26
  have h30 := ta30_30
  go_enter Ybaf.func4, Ybaf.ntmps4
  go_wp2
  go_ret
  exact ⟨rfl, rfl⟩

end Go.Proofs.YbulkanzsFmt
