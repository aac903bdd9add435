/-
  slices.Equal of a slice against itself: true.
-/
import Derived.Test.YbulkaobiRows
import Derived.WalkKit
import Derived.WalkSpells
import Derived.WalkLawsBesides
import Derived.Deep.QuietTactic
import Derived.BigQuiet
namespace Go.Proofs.Ybulkaobi
open Go.RowKit
set_option linter.unusedSimpArgs false
set_option linter.unusedVariables false

/-- n numbers lie where the slice begins. -/
def RowAt (w : World) (k : IntKind) (ao : Option Addr) (n : Nat) : Prop := 0 < n → ∃ b off, ao = some ⟨b, off, none⟩ ∧ ∀ j, j < n → ∃ x, w.cell? ⟨b, off + j, none⟩ = some (.int k x)

theorem RowAt.up {w w' : World} {k : IntKind} {ao : Option Addr} {n : Nat} (h : RowAt w k ao n) (hb : Below w.heap.size w w') : RowAt w' k ao n := fun hn => by
  obtain ⟨b, off, h1, h2⟩ := h hn
  refine ⟨b, off, h1, fun j hj => ?_⟩
  obtain ⟨x, hx⟩ := h2 j hj
  exact ⟨x, by rw [hb.cell (World.block_lt_of_cell? w _ hx)]; exact hx⟩
theorem RowAt.drewNs {w : World} {k : IntKind} {ao : Option Addr} {n m : Nat} (h : RowAt w k ao n) : RowAt (w.drewN m) k ao n := h

set_option maxHeartbeats 400000 in
theorem eq13_any (ao : Option Addr) (n cap : Nat) (hn : n ≤ 9223372036854775807) (w : World) (h : RowAt w .i64 ao n) :
    Calls Yba.prog 13 #[.slice ao n cap, .slice ao n cap] w fun e w' => e = .returned (.bool true) ∧ ∃ m, w' = w.drewN m := by
  have H : Hid (RowAt w .i64 ao n) := h
  clear h
  go_enter Yba.func13, Yba.ntmps13
  go_wp2
  go_loopw [13, 5] (fun i _ wr => ∃ t m : Nat, t ≤ n ∧ i = .int .i64 t ∧ wr = w.drewN m) (fun i _ _ => n - (intOf i).toNat)
  case atStart => exact ⟨0, 0, Nat.zero_le _, rfl, rfl⟩
  case round =>
    obtain ⟨t, m, ht, rfl, rfl⟩ := hrel
    by_cases hlt : t < n
    · obtain ⟨b, off, rfl, hc⟩ := H.out (by omega)
      obtain ⟨x, hx⟩ := hc t hlt
      clear H hc
      have hlt' : (t : Int) < (n : Int) := by omega
      have ht0 : (0 : Int) ≤ (t : Int) := by omega
      go_wp2
      go_quiet (fail)
      go_wp2
      go_roundw
      case rel => exact ⟨t + 1, _, hlt, by go_num, rfl⟩
      case measure => simp [intOf]; omega
    · clear H
      go_wp2
      go_ret
      exact ⟨rfl, m, rfl⟩

set_option maxHeartbeats 400000 in
theorem eq14_any (ao : Option Addr) (n cap : Nat) (hn : n ≤ 9223372036854775807) (w : World) (h : RowAt w .u8 ao n) :
    Calls Yba.prog 14 #[.slice ao n cap, .slice ao n cap] w fun e w' => e = .returned (.bool true) ∧ ∃ m, w' = w.drewN m := by
  have H : Hid (RowAt w .u8 ao n) := h
  clear h
  go_enter Yba.func14, Yba.ntmps14
  go_wp2
  go_loopw [13, 5] (fun i _ wr => ∃ t m : Nat, t ≤ n ∧ i = .int .i64 t ∧ wr = w.drewN m) (fun i _ _ => n - (intOf i).toNat)
  case atStart => exact ⟨0, 0, Nat.zero_le _, rfl, rfl⟩
  case round =>
    obtain ⟨t, m, ht, rfl, rfl⟩ := hrel
    by_cases hlt : t < n
    · obtain ⟨b, off, rfl, hc⟩ := H.out (by omega)
      obtain ⟨x, hx⟩ := hc t hlt
      clear H hc
      have hlt' : (t : Int) < (n : Int) := by omega
      have ht0 : (0 : Int) ≤ (t : Int) := by omega
      go_wp2
      go_quiet (fail)
      go_wp2
      go_roundw
      case rel => exact ⟨t + 1, _, hlt, by go_num, rfl⟩
      case measure => simp [intOf]; omega
    · clear H
      go_wp2
      go_ret
      exact ⟨rfl, m, rfl⟩

end Go.Proofs.Ybulkaobi
