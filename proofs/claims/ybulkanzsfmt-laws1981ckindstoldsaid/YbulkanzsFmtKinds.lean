/-
  The law's walk, all ways but the list's.
-/
import Derived.Test.YbulkanzsFmtDesc
namespace Go.Proofs.YbulkanzsFmt
open Go.RowKit

theorem ret_true {b : Bool} (h : b = true) : Ending.returned (.bool b) = .returned (.bool true) := by rw [h]

set_option maxHeartbeats 400000 in
theorem kBig (a0 : Int) (a1 : Bool) (a2 : Int) (a3 : ByteArray) (ao : Option Addr) (len cap : Nat) (w : World) (hl : 1024 < len) (hm : len ≤ maxLen) :
    Calls Ybaf.prog 3 #[.int .u8 a0, .bool a1, .int .u64 a2, .string a3, .slice ao len cap] w fun e w' => e = .returned (.bool true) ∧ Below w.heap.size w w' := by
  unfold maxLen at hm
  go_enter Ybaf.func3, Ybaf.ntmps3
  go_wp2
  go_ret
  exact ⟨rfl, Below.refl _ _⟩

set_option maxHeartbeats 400000 in
theorem k0 (a0 : Int) (a1 : Bool) (a2 : Int) (a3 : ByteArray) (ao : Option Addr) (len cap : Nat) (w : World) (hl : len ≤ 1024) (g0 : 0 ≤ a0) (g1 : a0 ≤ 255) (hr : a0 % 4 = 0) :
    Calls Ybaf.prog 3 #[.int .u8 a0, .bool a1, .int .u64 a2, .string a3, .slice ao len cap] w fun e w' => e = .returned (.bool true) ∧ Below w.heap.size w w' := by
  cases a1
  all_goals
    go_enter Ybaf.func3, Ybaf.ntmps3
    go_wp2_with (go_at_call 4; refine (desc24 _ _).mono ?_; rintro e w' ⟨rfl, rfl⟩)
    go_ret
    refine ⟨ret_true (by decide +kernel), ?_⟩
    repeat (first | exact Below.refl _ _ | refine Below.setCell ?_ (by simp) _ | refine Below.alloc ?_ (by simp) _)

set_option maxHeartbeats 400000 in
theorem k1 (a0 : Int) (a1 : Bool) (a2 : Int) (a3 : ByteArray) (ao : Option Addr) (len cap : Nat) (w : World) (hl : len ≤ 1024) (g0 : 0 ≤ a0) (g1 : a0 ≤ 255) (hr : a0 % 4 = 1) :
    Calls Ybaf.prog 3 #[.int .u8 a0, .bool a1, .int .u64 a2, .string a3, .slice ao len cap] w fun e w' => e = .returned (.bool true) ∧ Below w.heap.size w w' := by
  cases a1
  all_goals
    go_enter Ybaf.func3, Ybaf.ntmps3
    go_wp2_with (go_at_call 4; refine (desc25 _ _).mono ?_; rintro e w' ⟨rfl, rfl⟩)
    go_ret
    refine ⟨ret_true (by decide +kernel), ?_⟩
    repeat (first | exact Below.refl _ _ | refine Below.setCell ?_ (by simp) _ | refine Below.alloc ?_ (by simp) _)

set_option maxHeartbeats 400000 in
theorem k2 (a0 : Int) (a1 : Bool) (a2 : Int) (a3 : ByteArray) (ao : Option Addr) (len cap : Nat) (w : World) (hl : len ≤ 1024) (g0 : 0 ≤ a0) (g1 : a0 ≤ 255) (hr : a0 % 4 = 2) :
    Calls Ybaf.prog 3 #[.int .u8 a0, .bool a1, .int .u64 a2, .string a3, .slice ao len cap] w fun e w' => e = .returned (.bool true) ∧ Below w.heap.size w w' := by
  cases a1
  all_goals
    go_enter Ybaf.func3, Ybaf.ntmps3
    go_wp2_with (go_at_call 4; refine (desc26 _ _).mono ?_; rintro e w' ⟨rfl, rfl⟩)
    go_ret
    refine ⟨ret_true (by decide +kernel), ?_⟩
    repeat (first | exact Below.refl _ _ | refine Below.setCell ?_ (by simp) _ | refine Below.alloc ?_ (by simp) _)

end Go.Proofs.YbulkanzsFmt
