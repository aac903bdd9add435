/-
  LawS1982BOutcome: the walks, one a pair of bools.
-/
import Derived.Test.YbulkaoagDoorRows
import Derived.WalkKit
import Derived.WalkSpells
import Derived.WalkLawsBesides
import Derived.BigRegion
import Derived.LaidEql
import Derived.LaidEqlPtr
import Derived.Lib.Builder
namespace Go.Proofs.YbulkaoagDoor
open Go.RowKit
set_option linter.unusedVariables false

theorem errMethod (a : Option Addr) (w : World) : (method 408 22 (.pointer a) "Err").run Ybad.prog w = .ok (22, .pointer a) w := by kernel_rfl
theorem Ybad.comp86 : (Ybad.prog.info? 86).map (·.comparable) = some true := by kernel_rfl
theorem Ybad.size88 : (Ybad.prog.info? 88).map (·.size) = some 1 := by kernel_rfl
theorem Ybad.size43 : (Ybad.prog.info? 43).map (·.size) = some 3 := by kernel_rfl

theorem ptrEq (a : Addr) (w : World) : (binOp .eql 28 (.pointer (some a)) (.pointer (some a))).run Ybad.prog w = .ok (.bool true) w := by
  obtain ⟨j, hj, _⟩ := Option.map_eq_some_iff.1 Ybad.size43
  exact run_eql_ptr_same w a Ybad.underlying28 hj
theorem ptrNeq (a : Addr) (w : World) : (binOp .neq 28 (.pointer (some a)) (.pointer (some a))).run Ybad.prog w = .ok (.bool false) w := by
  obtain ⟨j, hj, _⟩ := Option.map_eq_some_iff.1 Ybad.size43
  exact Lib.run_neq_ptr_same w a Ybad.underlying28 hj
theorem ifaceEq (a : Addr) (w : World) : (binOp .eql 24 (.iface 86 (.pointer (some a))) (.iface 86 (.pointer (some a)))).run Ybad.prog w = .ok (.bool true) w := by
  obtain ⟨i, hi, hcmp⟩ := Option.map_eq_some_iff.1 Ybad.comp86
  obtain ⟨j, hj, _⟩ := Option.map_eq_some_iff.1 Ybad.size88
  exact run_eql_iface_ptr_same w a Ybad.underlying24 Ybad.underlying86 hi hcmp hj

set_option maxHeartbeats 1000000 in
set_option maxRecDepth 100000 in
theorem walk_false_false (a0 a1 : Addr) (w : World) (h0 : w.cell? ⟨0, 0, none⟩ = some (.iface 86 (.pointer (some a0)))) (h1 : w.cell? ⟨1, 0, none⟩ = some (.iface 86 (.pointer (some a1)))) (hs : 1 < w.heap.size) :
    Calls Ybad.prog 3 #[.bool false, .bool false] w fun e w' => e = .returned (.bool true) ∧ Below w.heap.size w w' := by
  have hm := errMethod
  have hpn := ptrNeq
  have hpe := ptrEq
  have hie := ifaceEq
  have hs0 : 0 < w.heap.size := by omega
  go_enter Ybad.func3, Ybad.ntmps3
  go_wp2
  go_region
  all_goals go_wp2
  all_goals
    go_ret
    refine ⟨rfl, ?_⟩
    repeat (first | with_reducible exact Below.refl _ _ | with_reducible refine Below.drew ?_ | with_reducible refine Below.setCell ?_ (by simp) _ | with_reducible refine Below.alloc ?_ (by simp <;> omega) _)

set_option maxHeartbeats 1000000 in
set_option maxRecDepth 100000 in
theorem walk_false_true (a0 a1 : Addr) (w : World) (h0 : w.cell? ⟨0, 0, none⟩ = some (.iface 86 (.pointer (some a0)))) (h1 : w.cell? ⟨1, 0, none⟩ = some (.iface 86 (.pointer (some a1)))) (hs : 1 < w.heap.size) :
    Calls Ybad.prog 3 #[.bool false, .bool true] w fun e w' => e = .returned (.bool true) ∧ Below w.heap.size w w' := by
  have hm := errMethod
  have hpn := ptrNeq
  have hpe := ptrEq
  have hie := ifaceEq
  have hs0 : 0 < w.heap.size := by omega
  go_enter Ybad.func3, Ybad.ntmps3
  go_wp2
  all_goals
    go_ret
    refine ⟨rfl, ?_⟩
    repeat (first | with_reducible exact Below.refl _ _ | with_reducible refine Below.drew ?_ | with_reducible refine Below.setCell ?_ (by simp) _ | with_reducible refine Below.alloc ?_ (by simp <;> omega) _)

set_option maxHeartbeats 1000000 in
set_option maxRecDepth 100000 in
theorem walk_true_false (a0 a1 : Addr) (w : World) (h0 : w.cell? ⟨0, 0, none⟩ = some (.iface 86 (.pointer (some a0)))) (h1 : w.cell? ⟨1, 0, none⟩ = some (.iface 86 (.pointer (some a1)))) (hs : 1 < w.heap.size) :
    Calls Ybad.prog 3 #[.bool true, .bool false] w fun e w' => e = .returned (.bool true) ∧ Below w.heap.size w w' := by
  have hm := errMethod
  have hpn := ptrNeq
  have hpe := ptrEq
  have hie := ifaceEq
  have hs0 : 0 < w.heap.size := by omega
  go_enter Ybad.func3, Ybad.ntmps3
  go_wp2
  go_region
  all_goals go_wp2
  all_goals
    go_ret
    refine ⟨rfl, ?_⟩
    repeat (first | with_reducible exact Below.refl _ _ | with_reducible refine Below.drew ?_ | with_reducible refine Below.setCell ?_ (by simp) _ | with_reducible refine Below.alloc ?_ (by simp <;> omega) _)

set_option maxHeartbeats 1000000 in
set_option maxRecDepth 100000 in
theorem walk_true_true (a0 a1 : Addr) (w : World) (h0 : w.cell? ⟨0, 0, none⟩ = some (.iface 86 (.pointer (some a0)))) (h1 : w.cell? ⟨1, 0, none⟩ = some (.iface 86 (.pointer (some a1)))) (hs : 1 < w.heap.size) :
    Calls Ybad.prog 3 #[.bool true, .bool true] w fun e w' => e = .returned (.bool true) ∧ Below w.heap.size w w' := by
  have hm := errMethod
  have hpn := ptrNeq
  have hpe := ptrEq
  have hie := ifaceEq
  have hs0 : 0 < w.heap.size := by omega
  go_enter Ybad.func3, Ybad.ntmps3
  go_wp2
  go_region
  all_goals go_wp2
  all_goals
    go_ret
    refine ⟨rfl, ?_⟩
    repeat (first | with_reducible exact Below.refl _ _ | with_reducible refine Below.drew ?_ | with_reducible refine Below.setCell ?_ (by simp) _ | with_reducible refine Below.alloc ?_ (by simp <;> omega) _)

end Go.Proofs.YbulkaoagDoor
