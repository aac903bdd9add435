/-
  The small callees: zzs1981bpreset, effectiveBalance, newValidator.
-/
import Derived.Test.YbulkanzsRows
import Derived.Test.YbulkanzsLaws
namespace Go.Proofs.Ybulkanzs
open Go.RowKit YbulkanzsLaws

theorem Yba.size53 : (Yba.prog.info? 53).map (·.size) = some 20 := by kernel_rfl

/-- The preset's cells: the name, the three numbers that are looked at, the others. -/
abbrev pcs (s : ByteArray) (x1 x2 x3 : Int) (r : List Value) : List Value := .string s :: .int .u64 x1 :: .int .u64 x2 :: .int .u64 x3 :: r

theorem pcs_len (s : ByteArray) (x1 x2 x3 : Int) {r : List Value} (hr : r.length = 16) : (Yba.prog.info? 53).map (·.size) = some (pcs s x1 x2 x3 r).length := by
  rw [Yba.size53]; simp [hr]

theorem pcs_one (s : ByteArray) (x1 x2 x3 : Int) {r : List Value} (h1 : ∀ v ∈ r, v.oneCell' = true) : (pcs s x1 x2 x3 r).toArray.all (·.oneCell') = true := by
  refine all_oneCell_toArray fun v hv => ?_
  simp only [pcs, List.mem_cons] at hv
  rcases hv with rfl | rfl | rfl | rfl | hv
  · rfl
  · rfl
  · rfl
  · rfl
  · exact h1 v hv

set_option maxHeartbeats 400000 in
theorem preset_zero (s : ByteArray) (x1 x2 : Int) (r : List Value) (hr : r.length = 16) (h1 : ∀ v ∈ r, v.oneCell' = true) (w : World) (b1 : 0 ≤ x1) :
    Calls Yba.prog 12 #[.agg (pcs s x1 x2 0 r).toArray] w fun e w' => e = .returned (.agg (pcs s (x1 % 65) x2 1 r).toArray) ∧ Below w.heap.size w w' := by
  go_enter Yba.func12, Yba.ntmps12
  go_wp2_with (first
    | (refine wpList_load_at rfl 53 (.tmp 1) rfl w.heap.size (pcs s x1 x2 0 r) _ rfl (fun j => by go_simp) Yba.underlying53 rfl (pcs_len _ _ _ _ hr) ?_)
    | (refine wpList_store_last rfl 53 (.tmp 3) (.tmp 4) rfl _ _ _ (pcs s x1 x2 0 r).toArray rfl rfl rfl (by simp) (pcs_len _ _ _ _ hr) (by simp [hr]) (pcs_one _ _ _ _ h1) ?_)
    | (refine wpList_load_at rfl 53 (.tmp 3) rfl (w.heap.size + 1 + 1) (pcs s (x1 % 65) x2 1 r) _ rfl (fun j => by go_simp) Yba.underlying53 rfl (pcs_len _ _ _ _ hr) ?_)
    | (refine wpList_store_second rfl 53 (.tmp 2) (.tmp 13) rfl _ _ _ _ (pcs s (x1 % 65) x2 1 r).toArray rfl rfl rfl (by simp) (pcs_len _ _ _ _ hr) (by simp [hr]) (pcs_one _ _ _ _ h1) ?_))
  refine bodyPost_struct Yba.results12 (w.heap.size + 1) (pcs s (x1 % 65) x2 1 r) _ rfl (fun j => by go_simp) Yba.underlying53 rfl (pcs_len _ _ _ _ hr) rfl ⟨rfl, ?_⟩
  exact (((Below.refl _ _).alloc (Nat.le_refl _) _).alloc (by simp) _).alloc (by simp; omega) _

set_option maxHeartbeats 400000 in
theorem preset_pos (s : ByteArray) (x1 x2 x3 : Int) (r : List Value) (hr : r.length = 16) (h1 : ∀ v ∈ r, v.oneCell' = true) (w : World) (b1 : 0 ≤ x1) (b3 : 0 < x3) :
    Calls Yba.prog 12 #[.agg (pcs s x1 x2 x3 r).toArray] w fun e w' => e = .returned (.agg (pcs s (x1 % 65) x2 x3 r).toArray) ∧ Below w.heap.size w w' := by
  go_enter Yba.func12, Yba.ntmps12
  go_wp2_with (first
    | (refine wpList_load_at rfl 53 (.tmp 1) rfl w.heap.size (pcs s x1 x2 x3 r) _ rfl (fun j => by go_simp) Yba.underlying53 rfl (pcs_len _ _ _ _ hr) ?_)
    | (refine wpList_store_last rfl 53 (.tmp 3) (.tmp 4) rfl _ _ _ (pcs s x1 x2 x3 r).toArray rfl rfl rfl (by simp) (pcs_len _ _ _ _ hr) (by simp [hr]) (pcs_one _ _ _ _ h1) ?_)
    | (refine wpList_load_at rfl 53 (.tmp 3) rfl (w.heap.size + 1 + 1) (pcs s (x1 % 65) x2 x3 r) _ rfl (fun j => by go_simp) Yba.underlying53 rfl (pcs_len _ _ _ _ hr) ?_)
    | (refine wpList_store_second rfl 53 (.tmp 2) (.tmp 13) rfl _ _ _ _ (pcs s (x1 % 65) x2 x3 r).toArray rfl rfl rfl (by simp) (pcs_len _ _ _ _ hr) (by simp [hr]) (pcs_one _ _ _ _ h1) ?_))
  refine bodyPost_struct Yba.results12 (w.heap.size + 1) (pcs s (x1 % 65) x2 x3 r) _ rfl (fun j => by go_simp) Yba.underlying53 rfl (pcs_len _ _ _ _ hr) rfl ⟨rfl, ?_⟩
  exact (((Below.refl _ _).alloc (Nat.le_refl _) _).alloc (by simp) _).alloc (by simp; omega) _

/-- The effective balance: the largest whole increment not above b, capped. -/
def effB (b x3 x2 : Int) : Int := if b - b % x3 ≤ x2 then b - b % x3 else x2

theorem ret_u64 {a b : Int} (h : a = b) : Ending.returned (.int .u64 a) = .returned (.int .u64 b) := by rw [h]

theorem rem_le {b x3 : Int} (c1 : 0 ≤ b) (c2 : 0 < x3) : 0 ≤ b % x3 ∧ b % x3 ≤ b :=
  ⟨Int.emod_nonneg _ (by omega), by
    have h1 := Int.emod_add_mul_ediv b x3
    have h2 : 0 ≤ x3 * (b / x3) := Int.mul_nonneg (by omega) (Int.ediv_nonneg c1 (by omega))
    omega⟩

theorem wrap_sub {b x3 : Int} (c1 : 0 ≤ b) (c2 : 0 < x3) (c3 : b ≤ 18446744073709551615) : IntKind.u64.wrap (b - b % x3) = b - b % x3 := by
  have := rem_le c1 c2
  have h : IntKind.u64.wrap (b - b % x3) = (b - b % x3) % 18446744073709551616 := by simp [IntKind.wrap, IntKind.signed, IntKind.bits]
  rw [h]
  omega

set_option maxHeartbeats 400000 in
theorem eff_any (s : ByteArray) (x1 x2 x3 : Int) (r : List Value) (b : Int) (w : World) (c1 : 0 ≤ b) (c2 : 0 < x3) (c3 : b ≤ 18446744073709551615) :
    Calls Yba.prog 18 #[.agg (pcs s x1 x2 x3 r).toArray, .int .u64 b] w fun e w' => e = .returned (.int .u64 (effB b x3 x2)) ∧ Below w.heap.size w w' := by
  have hw := wrap_sub c1 c2 c3
  go_enter Yba.func18, Yba.ntmps18
  go_wp2
  go_region
  all_goals
    go_wp2
  all_goals
    go_ret
    refine ⟨ret_u64 ?_, ((Below.refl _ _).alloc (Nat.le_refl _) _).drew⟩
    unfold effB
    split <;> omega

theorem Yba.size65 : (Yba.prog.info? 65).map (·.size) = some 7 := by kernel_rfl

/-- A validator's cells: balance, effective balance, slashed, the four epochs. -/
abbrev vcs (b e a0 a1 : Int) : List Value := [.int .u64 b, .int .u64 e, .bool false, .int .u64 a0, .int .u64 a1, .int .u64 18446744073709551615, .int .u64 18446744073709551615]

theorem vcs_one (b e a0 a1 : Int) : (vcs b e a0 a1).toArray.all (·.oneCell') = true := by
  refine all_oneCell_toArray fun v hv => ?_
  simp only [vcs, List.mem_cons, List.not_mem_nil, or_false] at hv
  rcases hv with rfl | rfl | rfl | rfl | rfl | rfl | rfl <;> rfl

set_option maxHeartbeats 400000 in
theorem newv_any (s : ByteArray) (x1 x2 x3 : Int) (r : List Value) (hr : r.length = 16) (b : Int) (w : World) (c1 : 0 ≤ b) (c2 : 0 < x3) (c3 : b ≤ 18446744073709551615) :
    Calls Yba.prog 16 #[.agg (pcs s x1 x2 x3 r).toArray, .int .u64 b] w fun e w' => e = .returned (.agg (vcs b (effB b x3 x2) 18446744073709551615 18446744073709551615).toArray) ∧ Below w.heap.size w w' := by
  go_enter Yba.func16, Yba.ntmps16
  go_wp2_with (first
    | (refine wpList_load_at rfl 53 (.tmp 2) rfl w.heap.size (pcs s x1 x2 x3 r) _ rfl (fun j => by go_simp) Yba.underlying53 rfl (pcs_len _ _ _ _ hr) ?_)
    | (go_at_call 18; refine (eff_any s x1 x2 x3 r b _ c1 c2 c3).mono ?_; rintro e w1 ⟨rfl, hb⟩; have hblk := blk_last (n := w.heap.size + 1) hb (by simp) (by simp); have hsz := hb.size; simp only [World.size_alloc] at hsz)
    | (refine wpList_store_mid rfl 65 (.tmp 4) (.tmp 9) rfl (w.heap.size + 1) 0 (vcs b (effB b x3 x2) 18446744073709551615 18446744073709551615).toArray rfl rfl (there_block hblk rfl) Yba.size65 (vcs_one _ _ _ _) ?_))
  refine bodyPost_range Yba.results16 (w.heap.size + 1) (vcs b (effB b x3 x2) 18446744073709551615 18446744073709551615) _ rfl (World.rangeAt_setCells_same _ _ _ _ (there_block hblk rfl)) Yba.underlying65 rfl Yba.size65 rfl ⟨rfl, ?_⟩
  refine below_setCells _ (by omega) _ _ _ ?_
  exact (((Below.refl _ _).alloc (Nat.le_refl _) _).alloc (by simp) _).trans (hb.mono (by simp; omega))

end Go.Proofs.Ybulkanzs
