/-
  supersedes and the law's own expectation: one Bool function both.
-/
import Derived.Test.YbulkaoagRows
import Derived.WalkKit
import Derived.ProofKit
import Derived.Deep.QuietTactic
import Derived.BigQuiet
namespace Go.Proofs.Ybulkaoag
open Go.RowKit
set_option linter.unusedSimpArgs false
set_option linter.unusedVariables false

/-- The rank of a state. -/
def pr (a : Int) : Int := if a = 1 then 0 else if a = 2 then 1 else 2

theorem ret_i64 {a b : Int} (h : a = b) : Ending.returned (.int .i64 a) = .returned (.int .i64 b) := by rw [h]

theorem prec_any (a : Int) (w : World) : Calls Yba.prog 7 #[.int .u8 a] w fun e w' => e = .returned (.int .i64 (pr a)) ∧ w' = w := by
  by_cases h1 : a = 1
  · subst h1
    go_enter Yba.func7, Yba.ntmps7
    go_wp2
    go_ret
    exact ⟨ret_i64 (by decide), rfl⟩
  by_cases h2 : a = 2
  · subst h2
    go_enter Yba.func7, Yba.ntmps7
    go_wp2
    go_ret
    exact ⟨ret_i64 (by decide), rfl⟩
  · have e1 : (a == 1) = false := by simpa using h1
    have e2 : (a == 2) = false := by simpa using h2
    go_enter Yba.func7, Yba.ntmps7
    go_wp2
    go_ret
    exact ⟨ret_i64 (by simp [pr, h1, h2]), rfl⟩

theorem rank_any (a : Int) (w : World) : Calls Yba.prog 8 #[.int .u8 a] w fun e w' => e = .returned (.int .i64 (pr a)) ∧ w' = w := by
  by_cases h1 : a = 1
  · subst h1
    go_enter Yba.func8, Yba.ntmps8
    go_wp2
    go_ret
    exact ⟨ret_i64 (by decide), rfl⟩
  by_cases h2 : a = 2
  · subst h2
    go_enter Yba.func8, Yba.ntmps8
    go_wp2
    go_ret
    exact ⟨ret_i64 (by decide), rfl⟩
  · have e1 : (a == 1) = false := by simpa using h1
    have e2 : (a == 2) = false := by simpa using h2
    go_enter Yba.func8, Yba.ntmps8
    go_wp2
    go_ret
    exact ⟨ret_i64 (by simp [pr, h1, h2]), rfl⟩

/-- What supersedes says. -/
def sup (i j a b c d : Int) : Bool := if i = j then (if a = 2 ∧ b = 2 then decide (d < c) else decide (pr b < pr a)) else decide (j < i)

theorem ret_bool {a b : Bool} (h : a = b) : Ending.returned (.bool a) = .returned (.bool b) := by rw [h]

set_option maxHeartbeats 400000 in
theorem exp_any (i j a b c d : Int) (w : World) : Calls Yba.prog 6 #[.int .u64 i, .int .u64 j, .int .u8 a, .int .u8 b, .int .u8 c, .int .u8 d] w fun e w' => e = .returned (.bool (sup i j a b c d)) ∧ w' = w := by
  by_cases h1 : j < i
  · go_enter Yba.func6, Yba.ntmps6
    go_wp2
    go_ret
    exact ⟨ret_bool (by simp [sup, h1]; omega), rfl⟩
  by_cases h2 : i < j
  · go_enter Yba.func6, Yba.ntmps6
    go_wp2
    go_ret
    exact ⟨ret_bool (by simp [sup, h1]; omega), rfl⟩
  have hij : i = j := by omega
  by_cases ha : a = 2
  · subst ha
    by_cases hb : b = 2
    · subst hb
      go_enter Yba.func6, Yba.ntmps6
      go_wp2
      go_ret
      exact ⟨ret_bool (by simp [sup, hij]), rfl⟩
    · have e2 : (b == 2) = false := by simpa using hb
      clear hij
      go_enter Yba.func6, Yba.ntmps6
      go_wp2_with (go_at_call 8; refine (rank_any _ _).mono ?_; rintro e w' ⟨rfl, rfl⟩)
      go_ret
      exact ⟨ret_bool (by rw [sup, if_pos (by omega), if_neg (by simp [hb])]), rfl⟩
  · have e2 : (a == 2) = false := by simpa using ha
    clear hij
    go_enter Yba.func6, Yba.ntmps6
    go_wp2_with (go_at_call 8; refine (rank_any _ _).mono ?_; rintro e w' ⟨rfl, rfl⟩)
    go_ret
    exact ⟨ret_bool (by rw [sup, if_pos (by omega), if_neg (by simp [ha])]), rfl⟩

set_option maxHeartbeats 400000 in
theorem sup_any (n0 m0 e0 n1 m1 e1 : ByteArray) (p0 p1 : Bool) (q0 q1 i j a b c d : Int) (w : World) :
    Calls Yba.prog 5 #[.agg #[.string n0, .string m0, .string e0, .int .u64 i, .int .u8 a, .int .u8 c, .bool p0, .int .u32 q0], .agg #[.string n1, .string m1, .string e1, .int .u64 j, .int .u8 b, .int .u8 d, .bool p1, .int .u32 q1]] w fun e w' => e = .returned (.bool (sup i j a b c d)) ∧ ∃ A B n, w' = ((w.alloc (.cells A 26)).alloc (.cells B 26)).drewN n := by
  by_cases h1 : i = j
  · subst h1
    by_cases ha : a = 2
    · subst ha
      by_cases hb : b = 2
      · subst hb
        go_enter Yba.func5, Yba.ntmps5
        go_wp2
        go_ret
        exact ⟨ret_bool (by simp [sup]), _, _, 0, rfl⟩
      · have e2 : (b == 2) = false := by simpa using hb
        go_enter Yba.func5, Yba.ntmps5
        go_wp2
        go_quiet ((go_at_call 7; exact Calls.quiet_of_same (prec_any _ _)))
        go_wp2
        go_ret
        exact ⟨ret_bool (by rw [sup, if_pos rfl, if_neg (by simp [hb])]), _, _, _, rfl⟩
    · have e2 : (a == 2) = false := by simpa using ha
      go_enter Yba.func5, Yba.ntmps5
      go_wp2
      go_quiet ((go_at_call 7; exact Calls.quiet_of_same (prec_any _ _)))
      go_wp2
      go_ret
      exact ⟨ret_bool (by rw [sup, if_pos rfl, if_neg (by simp [ha])]), _, _, _, rfl⟩
  · have e1 : (i == j) = false := by simpa using h1
    have e1' : (i != j) = true := by simpa using h1
    go_enter Yba.func5, Yba.ntmps5
    go_wp2
    go_ret
    exact ⟨ret_bool (by simp [sup, h1]), _, _, 0, rfl⟩

theorem Grown.more {w w' : World} (h : Grown w w') (A B : Array Value) (t : TypeId) (n : Nat) : Grown w (((w'.alloc (.cells A t)).alloc (.cells B t)).drewN n) :=
  (h.alloc A t).alloc B t

end Go.Proofs.Ybulkaoag
