/-
  slices.Repeat at the one zero, 0 to 64 times: as many zeros, in a block of their own.
-/
import Derived.Test.YbulkanzsRows
import Derived.Test.YbulkanzsLaws
import Derived.Test.YbulkanzsShelf
import Derived.Deep.RegionHeld3
namespace Go.Proofs.Ybulkanzs
open Go.RowKit YbulkanzsLaws

theorem Yba.info22 : (Yba.prog.info? 22).map (fun i => (i.zero, i.size, i.bytes)) = some (some (.int .u64 0), 1, 8) := by kernel_rfl
theorem Yba.size22 : (Yba.prog.info? 22).map (·.size) = some 1 := by kernel_rfl

theorem mul_one (c : Nat) (hc : c ≤ 64) (w : World) : Calls Yba.prog 19 #[.int .u64 1, .int .u64 (c : Int)] w fun e w' => e = .returned (.tuple #[.int .u64 0, .int .u64 (c : Int)]) ∧ w = w' := by
  refine (Yba.bits_Mul 1 c (by omega) (by omega) w).mono fun e w' h => ?_
  obtain ⟨rfl, rfl⟩ := h
  have e1 : (1 * c / 18446744073709551616 : Nat) = 0 := by omega
  have e2 : (1 * c % 18446744073709551616 : Nat) = c := by omega
  rw [e1, e2]
  exact ⟨rfl, rfl⟩

theorem zrow1_src {w1 : World} {b o : Nat} (h : w1.cell? ⟨b, o, none⟩ = some (.int .u64 0)) : ∀ j v, (zrow 1)[j]? = some v → w1.cell? ((⟨b, o, none⟩ : Addr).add j) = some v := by
  intro j v hj
  match j, hj with
  | 0, hj => simp [zrow] at hj; subst hj; simpa [Addr.add] using h

theorem zrow_src {w1 : World} {b c m : Nat} (h : w1.heap[b]? = some (.cells (zrow c).toArray 22 (0, 0))) (hm : m ≤ c) : ∀ j v, (zrow m)[j]? = some v → w1.cell? ((⟨b, 0, none⟩ : Addr).add j) = some v := by
  intro j v hj
  have hlt : j < m := by
    have := (List.getElem?_eq_some_iff.1 hj).1
    rwa [zrow_len] at this
  rw [zrow_get hlt] at hj
  rw [Addr.add_mid, Nat.zero_add, cells_block h]
  simp only [List.getElem?_toArray]
  rw [zrow_get (by omega)]
  exact hj

set_option maxHeartbeats 400000 in
set_option maxRecDepth 20000 in
theorem repeat_any (b o : Nat) (c : Nat) (hc : c ≤ 64) (hpos : 0 < c) (w : World) (hb : b < w.heap.size) (hcell : w.cell? ⟨b, o, none⟩ = some (.int .u64 0)) :
    Calls Yba.prog 17 #[.slice (some ⟨b, o, none⟩) 1 1, .int .i64 (c : Int)] w fun e w' => e = .returned (.slice (some ⟨w.heap.size, 0, none⟩) c c) ∧ w'.heap[w.heap.size]? = some (.cells (zrow c).toArray 22 (0, 0)) ∧ Below w.heap.size w w' := by
  obtain ⟨i0, hi, hz0, hz1, hz2⟩ := info_parts Yba.info22
  go_enter Yba.func17, Yba.ntmps17
  go_wp2_with (first
    | (go_at_call 19; refine (mul_one c hc _).mono ?_; rintro e w' ⟨rfl, rfl⟩)
    | (at_make; refine wpList_make_block rfl (.tmp 29) (.tmp 29) 23 rfl 22 i0 (.int .u64 0) 1 Yba.underlying23 hi hz0 hz1 .i64 .i64 _ _ c rfl rfl (by omega) (by omega) (by rw [hz2]; omega) (by omega) (zrow c).toArray (by rw [Nat.mul_one]; exact made_zrow c) ?_)
    | (refine wpList_copy_splice rfl (.tmp 31) (.tmp 32) 23 23 rfl 22 Yba.underlying23 Yba.size22 _ _ _ _ _ _ rfl rfl w.heap.size 0 (zrow c) 22 (heap_alloc_last w _) (zrow 1) (by rw [zrow_len]; show _ = min _ _; omega) (fun _ => ⟨rfl, ⟨b, o, none⟩, rfl, zrow1_src (by rw [World.cell?_alloc_past (hn := hb)]; exact hcell)⟩) (by simp only [zrow_len]; omega) (zrow_one 1) w.heap.size w ((Below.refl _ _).alloc (Nat.le_refl _) _) (Nat.le_refl _) ?_; intro w2 HG hB2))
  have hblk0 : w2.heap[w.heap.size]? = some (.cells (zrow c).toArray 22 (0, 0)) := by have h := HG.out; rw [splice_zrow c 0 1 (by omega)] at h; exact h
  clear HG
  go_loopw [8] (fun n wr => ∃ k : Nat, 1 ≤ k ∧ k ≤ c ∧ n = .int .i64 k ∧ wr.heap[w.heap.size]? = some (.cells (zrow c).toArray 22 (0, 0)) ∧ Below w.heap.size w wr) (fun n _ => c - (intOf n).toNat)
  case atStart => exact ⟨1, Nat.le_refl _, hpos, by rw [zrow_len], hblk0, hB2⟩
  case round =>
    obtain ⟨k, hk1, hk, rfl, hblk, hbel⟩ := hrel
    clear hblk0 hB2 hcell
    by_cases hlt : k < c
    · have HB : Hid (wr.heap[w.heap.size]? = some (.cells (zrow c).toArray 22 (0, 0))) := hblk
      clear hblk
      go_wp2
      go_region_held3 (fun _ => True) (exact trivial) (first | (refine step_copy_splice rfl (.tmp 41) (.tmp 44) 23 23 rfl 22 Yba.underlying23 Yba.size22 (if c = k then some ⟨w.heap.size, 0, none⟩ else some ⟨w.heap.size, k, none⟩) (some ⟨w.heap.size, 0, none⟩) (c - k) (c - k) k c rfl rfl w.heap.size k (zrow c) 22 HB.out (zrow (min k (c - k))) (by rw [zrow_len]) (fun _ => ⟨if_neg (by omega), ⟨w.heap.size, 0, none⟩, rfl, zrow_src HB.out (by omega)⟩) (by simp only [zrow_len]; omega) (zrow_one _) w.heap.size w (by exact hbel.drew) (Nat.le_refl _) ?_; intro w4 HG4 hB4))
      go_wp2
      have hwr : IntKind.i64.wrap ((k : Int) + ((zrow (min k (c - k))).length : Int)) = ((k + min k (c - k) : Nat) : Int) := by rw [IntKind.wrap_i64, zrow_len]; omega
      go_roundw
      case rel =>
        have h := HG4.out
        rw [splice_zrow c k _ (by omega)] at h
        exact ⟨k + min k (c - k), by omega, by omega, by rw [hwr], h, hB4⟩
      case measure => rw [hwr]; simp [intOf]; omega
    · have hkc : k = c := by omega
      go_wp2
      go_ret
      exact ⟨rfl, hblk, hbel⟩

theorem mul_none (w : World) : Calls Yba.prog 19 #[.int .u64 1, .int .u64 0] w fun e w' => e = .returned (.tuple #[.int .u64 0, .int .u64 0]) ∧ w = w' := by
  refine (Yba.bits_Mul 1 0 (by omega) (by omega) w).mono fun e w' h => ?_
  obtain ⟨rfl, rfl⟩ := h
  exact ⟨rfl, rfl⟩

set_option maxHeartbeats 400000 in
set_option maxRecDepth 20000 in
theorem repeat_none (b o : Nat) (w : World) :
    Calls Yba.prog 17 #[.slice (some ⟨b, o, none⟩) 1 1, .int .i64 0] w fun e w' => e = .returned (.slice (some ⟨w.heap.size, 0, none⟩) 0 0) ∧ w'.heap[w.heap.size]? = some (.cells (zrow 0).toArray 22 (0, 0)) ∧ Below w.heap.size w w' := by
  obtain ⟨i0, hi, hz0, hz1, hz2⟩ := info_parts Yba.info22
  go_enter Yba.func17, Yba.ntmps17
  go_wp2_with (first
    | (go_at_call 19; refine (mul_none _).mono ?_; rintro e w' ⟨rfl, rfl⟩)
    | (at_make; refine wpList_make_block rfl (.tmp 29) (.tmp 29) 23 rfl 22 i0 (.int .u64 0) 1 Yba.underlying23 hi hz0 hz1 .i64 .i64 _ _ 0 rfl rfl rfl rfl (by omega) (by omega) (zrow 0).toArray (by rw [Nat.mul_one]; exact made_zrow 0) ?_)
    | (refine wpList_copy_nothing rfl (.tmp 31) (.tmp 32) 23 23 rfl 22 Yba.underlying23 Yba.size22 _ _ _ _ _ _ rfl rfl rfl ?_))
  go_loopw [8] (fun n wr => n = .int .i64 0 ∧ wr.heap[w.heap.size]? = some (.cells (zrow 0).toArray 22 (0, 0)) ∧ Below w.heap.size w wr) (fun _ _ => 0)
  case atStart => exact ⟨rfl, heap_alloc_last w _, (Below.refl _ _).alloc (Nat.le_refl _) _⟩
  case round =>
    obtain ⟨rfl, hblk, hbel⟩ := hrel
    go_wp2
    go_ret
    exact ⟨rfl, hblk, hbel⟩

/-- Both together. -/
theorem repeat_all (b o : Nat) (c : Nat) (hc : c ≤ 64) (w : World) (hb : b < w.heap.size) (hcell : w.cell? ⟨b, o, none⟩ = some (.int .u64 0)) :
    Calls Yba.prog 17 #[.slice (some ⟨b, o, none⟩) 1 1, .int .i64 (c : Int)] w fun e w' => e = .returned (.slice (some ⟨w.heap.size, 0, none⟩) c c) ∧ w'.heap[w.heap.size]? = some (.cells (zrow c).toArray 22 (0, 0)) ∧ Below w.heap.size w w' := by
  by_cases h : 0 < c
  · exact repeat_any b o c hc h w hb hcell
  · obtain rfl : c = 0 := by omega
    exact repeat_none b o w

end Go.Proofs.Ybulkanzs
