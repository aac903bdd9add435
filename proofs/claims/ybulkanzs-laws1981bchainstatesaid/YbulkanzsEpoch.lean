/-
  newTargetEpoch, as Genesis calls it.
-/
import Derived.Test.YbulkanzsSmall
import Derived.Test.YbulkanzsRepeat
import Derived.Lib.AppendZeros
namespace Go.Proofs.Ybulkanzs
open Go.RowKit YbulkanzsLaws

theorem Yba.size59 : (Yba.prog.info? 59).map (·.size) = some 5 := by kernel_rfl
theorem Yba.info68 : (Yba.prog.info? 68).map (fun i => (i.zero, i.size, i.bytes)) = some (some (.agg #[.int .u8 0, .bool false, .bool false]), 3, 3) := by kernel_rfl

/-- append(nil, make([]T, n)...) as one step of a region that draws. -/
theorem step_append_zeros {P : Program} {ops : Array Oper} {o : Oper} {a : Act} {w : World} {K : Act → World → Prop} {Q : Exit → Act → World → Prop} {E : Prop} (hgd : o.guard = none) (s x : Operand) (t tn : TypeId)
    (ho : o.op = .call { callee := .builtin .append, args := #[s, x], argTypes := #[t, tn] }) (e : TypeId) (i : TypeInfo) (z : Value) (k kn : IntKind) (ht : P.underlying t = some (.slice e)) (htn : P.underlying tn = some (.int kn)) (hi : P.info? e = some i) (hz : i.zero = some z)
    (n : Nat) (hs : a.eval s = .slice none 0 0) (hx : a.eval x = .int k n) (h0 : 0 < n) (hsz : 0 < i.size) (h63 : (n : Int) ≤ 9223372036854775807) (h48 : n * i.bytes ≤ 281474976710656)
    (h : ∀ cap row, n ≤ cap → Hid (row = Builtin.zeroCells z.cells n ++ Builtin.zeroCells z.cells (cap - n)) → K (a.put o.dst (.slice (some ⟨w.heap.size, 0, none⟩) n cap)) (w.drew.alloc (.cells row e))) :
    if Region.wanted o (yielded ops a.tmps) = true then Oper.wp P o a w K Q else E := by
  have hw : Region.wanted o (yielded ops a.tmps) = true := by simp [Region.wanted, hgd]
  rw [if_pos hw]
  exact Lib.wp_append_run w s x t tn ho _ _ hs hx _ _ (Lib.run_append_nil_zeros w t tn o.type e i z k kn ht htn hi hz n h0 hsz h63 h48) (h _ _ (grownCap_ge _ _ _ _) rfl)

/-- What the region reads of the call's own blocks. -/
abbrev NS (N c : Nat) (w' : World) : Prop :=
  w'.cell? ⟨N, 1, none⟩ = some (.int .u64 (c : Int)) ∧ w'.cell? ⟨N + 1, 0, none⟩ = some (.int .u64 0) ∧ w'.cell? ⟨N + 1, 1, none⟩ = some (.int .u64 0) ∧ N + 1 + 1 < w'.heap.size

theorem NS.drewNs {N c : Nat} {w' : World} (h : NS N c w') : NS N c w'.drew := h
theorem NS.belowNs {N c B : Nat} {W w' : World} (h : NS N c W) (hb : Below B W w') (hB : N + 1 + 1 < B) : NS N c w' := by
  obtain ⟨h1, h2, h3, h10⟩ := h
  have hs := hb.size
  refine ⟨?_, ?_, ?_, by omega⟩
  · rw [hb.cell (by show N < B; omega)]; exact h1
  · rw [hb.cell (by show N + 1 < B; omega)]; exact h2
  · rw [hb.cell (by show N + 1 < B; omega)]; exact h3
theorem NS.allocNs {N c : Nat} {w' : World} (h : NS N c w') (o : Obj) : NS N c (w'.alloc o) :=
  NS.belowNs h ((Below.refl w'.heap.size w').alloc (Nat.le_refl _) o) h.2.2.2
theorem NS.setNs {N c : Nat} {w' : World} (h : NS N c w') (j : Nat) (v : Value) : NS N c (w'.setCell ⟨N + 1 + 1, j, none⟩ v) := by
  obtain ⟨h1, h2, h3, h10⟩ := h
  refine ⟨?_, ?_, ?_, by simpa using h10⟩
  · rw [World.cell?_setCell_other _ _ _ _ (fun e => by have : N + 1 + 1 = N := congrArg Addr.block e; omega)]; exact h1
  · rw [World.cell?_setCell_other _ _ _ _ (fun e => by have : N + 1 + 1 = N + 1 := congrArg Addr.block e; omega)]; exact h2
  · rw [World.cell?_setCell_other _ _ _ _ (fun e => by have : N + 1 + 1 = N + 1 := congrArg Addr.block e; omega)]; exact h3

/-- n votes that say nothing, in a row of the call's own; none where there is none. -/
def VS (w' : World) (B : Nat) (vs : Value) (n : Nat) : Prop := (n = 0 ∧ vs = .slice none 0 0) ∨
  ∃ gv cap row, vs = .slice (some ⟨gv, 0, none⟩) n cap ∧ B ≤ gv ∧ w'.heap[gv]? = some (.cells row 68 (0, 0)) ∧ ∀ j, j < n → row[j * 3]? = some (.int .u8 0) ∧ row[j * 3 + 1]? = some (.bool false) ∧ row[j * 3 + 2]? = some (.bool false)

theorem zeros_at (z : Array Value) (n m j f : Nat) (h3 : z.size = 3) (hj : j < n) (hf : f < 3) : (Builtin.zeroCells z n ++ Builtin.zeroCells z m)[j * 3 + f]? = some z[f]! := by
  have hs : (Builtin.zeroCells z n).size = n * 3 := by simp [Builtin.zeroCells, h3]
  have hlt : j * 3 + f < (Builtin.zeroCells z n).size := by rw [hs]; omega
  rw [Array.getElem?_append_left hlt, Array.getElem?_eq_getElem hlt]
  simp only [Builtin.zeroCells, Array.getElem_map, Array.getElem_range, h3]
  congr 2
  omega

/-- What newTargetEpoch leaves: the heads, all 0; the votes. -/
def NPost (B c n : Nat) (w w' : World) (e : Ending) : Prop :=
  ∃ gh vs, e = .returned (.agg #[.int .u64 0, .slice (some ⟨gh, 0, none⟩) c c, .int .u64 0, .int .u64 0, vs]) ∧ B ≤ gh ∧ w'.heap[gh]? = some (.cells (zrow c).toArray 22 (0, 0)) ∧ VS w' B vs n ∧ Below B w w'

set_option maxHeartbeats 400000 in
set_option maxRecDepth 20000 in
theorem nte_pos (s : ByteArray) (c : Nat) (x2 x3 : Int) (r : List Value) (n : Nat) (hn0 : 0 < n) (hn : n ≤ 1024) (hc : c ≤ 64) (w : World) :
    Calls Yba.prog 15 #[.agg (pcs s c x2 x3 r).toArray, .int .u64 0, .int .u64 0, .agg #[.int .u64 0, .int .u64 0], .int .i64 (n : Int), .slice none 0 0] w fun e w' => NPost w.heap.size c n w w' e := by
  obtain ⟨i0, hi, hz0, hz1, hz2⟩ := info_parts Yba.info68
  have hwc : IntKind.i64.wrap (c : Int) = (c : Int) := by rw [IntKind.wrap_i64]; omega
  go_enter Yba.func15, Yba.ntmps15
  go_wp2
  have hns : NS w.heap.size c (((w.alloc (Obj.cells (pcs s (↑c) x2 x3 r).toArray 53)).alloc (Obj.cells #[Value.int IntKind.u64 0, Value.int IntKind.u64 0] 48)).alloc (Obj.cells #[Value.int IntKind.u64 0, Value.slice none 0 0, Value.int IntKind.u64 0, Value.int IntKind.u64 0, Value.slice none 0 0] 59)) := by
    exact ⟨by go_simp, by go_simp, by go_simp, by simp⟩
  go_region_held3 (NS w.heap.size c) (first | with_reducible assumption | with_reducible exact NS.drewNs hns | with_reducible exact NS.drewNs (NS.allocNs hns _) | with_reducible exact NS.allocNs (NS.drewNs hns1) _ | with_reducible exact NS.drewNs (NS.allocNs (NS.setNs (NS.setNs (NS.setNs (NS.setNs (NS.setNs hns1 _ _) _ _) _ _) _ _) _ _) _))
    (first
      | (go_at_call 17; refine (repeat_all (w.heap.size + 1 + 1 + 1) 0 c hc _ (by simp) (by go_simp)).mono ?_; rintro e w1 ⟨rfl, hrow, hb1⟩; have hns1 := NS.belowNs (NS.drewNs (NS.allocNs hns _)) hb1 (by simp); have hq := blk_second (n := w.heap.size + 1 + 1) (undrew hb1) (by simp) (by simp); have q0 := cells_block hq 0; have q1 := cells_block hq 1; have q2 := cells_block hq 2; have q3 := cells_block hq 3; have q4 := cells_block hq 4; have qf := free_block hq; simp at q0 q1 q2 q3 q4)
      | (refine step_append_zeros rfl (.tmp 22) (.tmp 23) 57 3 rfl 68 i0 _ .i64 .i64 Yba.underlying57 Yba.underlying3 hi hz0 n rfl rfl hn0 (by omega) (by omega) (by rw [hz2]; omega) ?_; intro cap row hcap hrw))
  go_wp2
  have hsz := hb1.size
  simp only [World.size_drew, World.size_alloc] at hsz hrow
  have hR : (((w1.setCells (w.heap.size + 1 + 1) 0 [.int .u64 0, .slice (some ⟨w.heap.size + 1 + 1 + 1 + 1, 0, none⟩) c c, .int .u64 0, .int .u64 0, .slice (some ⟨w1.heap.size, 0, none⟩) n cap]).alloc (.cells row 68)).drew).rangeAt (w.heap.size + 1 + 1) 0 [.int .u64 0, .slice (some ⟨w.heap.size + 1 + 1 + 1 + 1, 0, none⟩) c c, .int .u64 0, .int .u64 0, .slice (some ⟨w1.heap.size, 0, none⟩) n cap] := by
    have h1 := World.rangeAt_setCells_same w1 (w.heap.size + 1 + 1) 0 [.int .u64 0, .slice (some ⟨w.heap.size + 1 + 1 + 1 + 1, 0, none⟩) c c, .int .u64 0, .int .u64 0, .slice (some ⟨w1.heap.size, 0, none⟩) n cap] (there_block hq rfl)
    exact range_drew (range_alloc h1 (by rw [size_setCells]; omega) _)
  change bodyPost _ _ _ _ _ (((w1.setCells (w.heap.size + 1 + 1) 0 [.int .u64 0, .slice (some ⟨w.heap.size + 1 + 1 + 1 + 1, 0, none⟩) c c, .int .u64 0, .int .u64 0, .slice (some ⟨w1.heap.size, 0, none⟩) n cap]).alloc (.cells row 68)).drew)
  refine bodyPost_range Yba.results15 (w.heap.size + 1 + 1) [.int .u64 0, .slice (some ⟨w.heap.size + 1 + 1 + 1 + 1, 0, none⟩) c c, .int .u64 0, .int .u64 0, .slice (some ⟨w1.heap.size, 0, none⟩) n cap] _ rfl hR Yba.underlying59 rfl Yba.size59 rfl ?_
  refine ⟨_, _, rfl, by omega, block_drew (block_alloc ?_ _), Or.inr ⟨w1.heap.size, cap, row, rfl, by omega, block_drew ?_, fun j hj => ?_⟩, Below.drew (Below.alloc (below_setCells _ (by omega) _ _ _ ?_) (by rw [size_setCells]; omega) _)⟩
  · rw [block_setCells (by omega)]; exact hrow
  · have := heap_alloc_last (w1.setCells (w.heap.size + 1 + 1) 0 [.int .u64 0, .slice (some ⟨w.heap.size + 1 + 1 + 1 + 1, 0, none⟩) c c, .int .u64 0, .int .u64 0, .slice (some ⟨w1.heap.size, 0, none⟩) n cap]) (.cells row 68)
    rw [size_setCells] at this
    exact this
  · have h := hrw.out
    rw [h]
    exact ⟨zeros_at _ n _ j 0 rfl hj (by omega), zeros_at _ n _ j 1 rfl hj (by omega), zeros_at _ n _ j 2 rfl hj (by omega)⟩
  · exact ((((Below.refl _ _).alloc (Nat.le_refl _) _).alloc (by simp) _).alloc (by simp; omega) _).alloc (by simp; omega) _ |>.trans ((undrew hb1).mono (by simp; omega))

set_option maxHeartbeats 400000 in
set_option maxRecDepth 20000 in
theorem nte_none (s : ByteArray) (c : Nat) (x2 x3 : Int) (r : List Value) (hc : c ≤ 64) (w : World) :
    Calls Yba.prog 15 #[.agg (pcs s c x2 x3 r).toArray, .int .u64 0, .int .u64 0, .agg #[.int .u64 0, .int .u64 0], .int .i64 0, .slice none 0 0] w fun e w' => NPost w.heap.size c 0 w w' e := by
  have hwc : IntKind.i64.wrap (c : Int) = (c : Int) := by rw [IntKind.wrap_i64]; omega
  go_enter Yba.func15, Yba.ntmps15
  go_wp2
  have hns : NS w.heap.size c (((w.alloc (Obj.cells (pcs s (↑c) x2 x3 r).toArray 53)).alloc (Obj.cells #[Value.int IntKind.u64 0, Value.int IntKind.u64 0] 48)).alloc (Obj.cells #[Value.int IntKind.u64 0, Value.slice none 0 0, Value.int IntKind.u64 0, Value.int IntKind.u64 0, Value.slice none 0 0] 59)) := by
    exact ⟨by go_simp, by go_simp, by go_simp, by simp⟩
  go_region_held3 (NS w.heap.size c) (first | with_reducible assumption | with_reducible exact NS.drewNs hns | with_reducible exact NS.drewNs (NS.allocNs hns _) | with_reducible exact NS.setNs (NS.setNs (NS.setNs (NS.setNs (NS.setNs hns1 _ _) _ _) _ _) _ _) _ _)
    (first
      | (go_at_call 17; refine (repeat_all (w.heap.size + 1 + 1 + 1) 0 c hc _ (by simp) (by go_simp)).mono ?_; rintro e w1 ⟨rfl, hrow, hb1⟩; have hns1 := NS.belowNs (NS.drewNs (NS.allocNs hns _)) hb1 (by simp); have hq := blk_second (n := w.heap.size + 1 + 1) (undrew hb1) (by simp) (by simp); have q0 := cells_block hq 0; have q1 := cells_block hq 1; have q2 := cells_block hq 2; have q3 := cells_block hq 3; have q4 := cells_block hq 4; have qf := free_block hq; simp at q0 q1 q2 q3 q4))
  go_wp2
  have hsz := hb1.size
  simp only [World.size_drew, World.size_alloc] at hsz hrow
  have hR : (w1.setCells (w.heap.size + 1 + 1) 0 [.int .u64 0, .slice (some ⟨w.heap.size + 1 + 1 + 1 + 1, 0, none⟩) c c, .int .u64 0, .int .u64 0, .slice none 0 0]).rangeAt (w.heap.size + 1 + 1) 0 [.int .u64 0, .slice (some ⟨w.heap.size + 1 + 1 + 1 + 1, 0, none⟩) c c, .int .u64 0, .int .u64 0, .slice none 0 0] := World.rangeAt_setCells_same w1 (w.heap.size + 1 + 1) 0 [.int .u64 0, .slice (some ⟨w.heap.size + 1 + 1 + 1 + 1, 0, none⟩) c c, .int .u64 0, .int .u64 0, .slice none 0 0] (there_block hq rfl)
  change bodyPost _ _ _ _ _ (w1.setCells (w.heap.size + 1 + 1) 0 [.int .u64 0, .slice (some ⟨w.heap.size + 1 + 1 + 1 + 1, 0, none⟩) c c, .int .u64 0, .int .u64 0, .slice none 0 0])
  refine bodyPost_range Yba.results15 (w.heap.size + 1 + 1) [.int .u64 0, .slice (some ⟨w.heap.size + 1 + 1 + 1 + 1, 0, none⟩) c c, .int .u64 0, .int .u64 0, .slice none 0 0] _ rfl hR Yba.underlying59 rfl Yba.size59 rfl ?_
  refine ⟨_, _, rfl, by omega, ?_, Or.inl ⟨rfl, rfl⟩, below_setCells _ (by omega) _ _ _ ?_⟩
  · rw [block_setCells (by omega)]; exact hrow
  · exact ((((Below.refl _ _).alloc (Nat.le_refl _) _).alloc (by simp) _).alloc (by simp; omega) _).alloc (by simp; omega) _ |>.trans ((undrew hb1).mono (by simp; omega))

/-- Both together. -/
theorem nte_all (s : ByteArray) (c : Nat) (x2 x3 : Int) (r : List Value) (n : Nat) (hn : n ≤ 1024) (hc : c ≤ 64) (w : World) :
    Calls Yba.prog 15 #[.agg (pcs s c x2 x3 r).toArray, .int .u64 0, .int .u64 0, .agg #[.int .u64 0, .int .u64 0], .int .i64 (n : Int), .slice none 0 0] w fun e w' => NPost w.heap.size c n w w' e := by
  by_cases h : 0 < n
  · exact nte_pos s c x2 x3 r n h hn hc w
  · obtain rfl : n = 0 := by omega
    exact nte_none s c x2 x3 r hc w

end Go.Proofs.Ybulkanzs
