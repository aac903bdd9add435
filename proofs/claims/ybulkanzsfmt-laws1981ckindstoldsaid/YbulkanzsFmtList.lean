/-
  The law's walk at the list: the loop that fills l, then describe.
-/
import Derived.Test.YbulkanzsFmtKinds
import Derived.Laws.IdiomStrings
namespace Go.Proofs.YbulkanzsFmt
open Go.RowKit

theorem Ybaf.info29 : (Ybaf.prog.info? 29).map (fun i => (i.zero, i.size, i.bytes)) = some (some (.slice none 0 0), 1, 24) := by kernel_rfl

structure KInv (R V len k : Nat) (w wr : World) : Prop where
  kRow : ∀ j, j < len → (wr.cell? ⟨R, j, none⟩).isSome = true ∧ wr.frozen? ⟨R, j, none⟩ = false
  kVar : wr.cell? ⟨V, 0, none⟩ = some (.slice (some ⟨R, 0, none⟩) k len)
  kFree : wr.frozen? ⟨V, 0, none⟩ = false
  hR : R < V
  hV : V < wr.heap.size
  kBel : Below R w wr

theorem KInv.drew {R V len k : Nat} {w wr : World} (h : KInv R V len k w wr) : KInv R V len k w wr.drew :=
  ⟨h.kRow, h.kVar, h.kFree, h.hR, h.hV, h.kBel.drew⟩
theorem KInv.alloc {R V len k : Nat} {w wr : World} (h : KInv R V len k w wr) (o : Obj) : KInv R V len k w (wr.alloc o) := by
  have h1 := h.hR; have h2 := h.hV
  refine ⟨fun j hj => ?_, ?_, ?_, h.hR, by simp; omega, h.kBel.alloc (by omega) o⟩
  · rw [World.cell?_alloc_past (hn := by omega), World.frozen?_alloc_past (hn := by omega)]; exact h.kRow j hj
  · rw [World.cell?_alloc_past (hn := by omega)]; exact h.kVar
  · rw [World.frozen?_alloc_past (hn := by omega)]; exact h.kFree
theorem KInv.cellPut {R V len k : Nat} {w wr : World} (h : KInv R V len k w wr) (j : Nat) (v : Value) : KInv R V len k w (wr.setCell ⟨R, j, none⟩ v) := by
  have h1 := h.hR; have h2 := h.hV
  refine ⟨fun i hi => ⟨?_, by rw [World.frozen?_setCell]; exact (h.kRow i hi).2⟩, ?_, by rw [World.frozen?_setCell]; exact h.kFree, h.hR, by simpa using h2, h.kBel.setCell (Nat.le_refl _) v⟩
  · obtain ⟨u, hu⟩ := Option.isSome_iff_exists.1 (h.kRow i hi).1
    obtain ⟨v', hv'⟩ := cell?_setCell_some (p := ⟨R, j, none⟩) (x := v) hu
    rw [hv']; rfl
  · rw [World.cell?_setCell_other _ _ _ _ (fun e => by have : R = V := congrArg Addr.block e; omega)]; exact h.kVar
theorem KInv.cellStore {R V len k : Nat} {w wr : World} (h : KInv R V len k w wr) (k' : Nat) : KInv R V len k' w (wr.setCell ⟨V, 0, none⟩ (.slice (some ⟨R, 0, none⟩) k' len)) := by
  have h1 := h.hR; have h2 := h.hV
  refine ⟨fun i hi => ⟨?_, by rw [World.frozen?_setCell]; exact (h.kRow i hi).2⟩, ?_, by rw [World.frozen?_setCell]; exact h.kFree, h.hR, by simpa using h2, h.kBel.setCell (by show R ≤ V; omega) _⟩
  · rw [World.cell?_setCell_other _ _ _ _ (fun e => by have : V = R := congrArg Addr.block e; omega)]; exact (h.kRow i hi).1
  · exact World.cell?_setCell_same _ _ _ h.kVar

theorem KInv.begins {len : Nat} {w w1 : World} {t : TypeId} {v : Value} (hv : v = .slice (some ⟨w.heap.size, 0, none⟩) 0 len)
    (hown : w1.ownsRow w.heap.size 29 1 v 0 []) (hg : w.grownBy w1 none) :
    KInv w.heap.size w1.heap.size len 0 w (w1.alloc (.cells #[.slice (some ⟨w.heap.size, 0, none⟩) 0 len] t)) := by
  subst hv
  obtain ⟨_, h | ⟨g, cap, cur, hv, _, hh, _, _, hs, _⟩⟩ := hown
  · exact absurd h.1 (by simp)
  · simp only [Value.slice.injEq, Option.some.injEq, Addr.mk.injEq, and_true, true_and] at hv
    obtain ⟨rfl, rfl⟩ := hv
    have hlt := lt_of_block hh
    refine ⟨fun j hj => ?_, ?_, ?_, hlt, by simp, ((Below.refl _ _).grown hg (Nat.le_refl _) (fun _ h => by cases h)).alloc (by omega) _⟩
    · rw [World.cell?_alloc_past (hn := hlt), World.frozen?_alloc_past (hn := hlt)]
      constructor
      · simp [World.cell?, hh]; omega
      · simp [World.frozen?, hh]
    · rw [World.cell?_alloc_at (hn := rfl)]; rfl
    · rw [World.frozen?_alloc_at (hn := rfl)]

set_option maxHeartbeats 400000 in
theorem k3 (a0 : Int) (a1 : Bool) (a2 : Int) (a3 : ByteArray) (b off : Nat) (len cap : Nat) (ss : List ByteArray) (w : World) (hl : len ≤ 1024) (g0 : 0 ≤ a0) (g1 : a0 ≤ 255) (hr : a0 % 4 = 3)
    (hb : b < w.heap.size) (hc : ∀ j, j < len → w.cell? ⟨b, off + j, none⟩ = some (.string (ss.getD j ByteArray.empty))) :
    Calls Ybaf.prog 3 #[.int .u8 a0, .bool a1, .int .u64 a2, .string a3, .slice (some ⟨b, off, none⟩) len cap] w fun e w' => e = .returned (.bool true) ∧ Below w.heap.size w w' := by
  obtain ⟨i0, hi, hz0, hz1, hz2⟩ := info_parts Ybaf.info29
  go_enter Ybaf.func3, Ybaf.ntmps3
  go_wp2_with (at_make; refine wpList_make_own _ rfl (.const (.int .i64 0)) (.tmp 27) 27 rfl w.heap.size 29 i0 (.slice none 0 0) 1 Ybaf.underlying27 hi hz0 hz1 .i64 .i64 _ len rfl rfl (by omega) (by rw [hz2]; omega) (by unfold maxLen; omega) (Nat.le_refl _) ?_; intro w1 hown hgrow)
  have hst := KInv.begins (t := 27) rfl hown hgrow
  clear hown hgrow
  go_loopw [18] (fun i wr => ∃ k : Nat, k ≤ len ∧ i = .int .i64 k ∧ KInv w.heap.size w1.heap.size len k w wr) (fun i _ => len - (intOf i).toNat)
  case atStart => exact ⟨0, Nat.zero_le _, rfl, hst⟩
  case round =>
    obtain ⟨k, hk, rfl, hinv⟩ := hrel
    clear hst
    by_cases hlt : k < len
    · obtain ⟨s, hs⟩ : ∃ s, s = ss.getD k ByteArray.empty := ⟨_, rfl⟩
      have hcs : wr.cell? ⟨b, off + k, none⟩ = some (.string s) := by rw [hs]; exact (hinv.kBel.cell hb).trans (hc k hlt)
      clear hs hc
      have hcV := hinv.kVar
      have hfV := hinv.kFree
      have hRV := hinv.hR
      have hV := hinv.hV
      have hbw : b < wr.heap.size := by omega
      have hcv := fun W => run_bytes_of_string (P := Ybaf.prog) W 9 29 5 s Ybaf.underlying9 Ybaf.underlying29 Ybaf.underlying5
      have INV : Hid (KInv w.heap.size w1.heap.size len k w wr) := hinv
      obtain ⟨u, hu⟩ := Option.isSome_iff_exists.1 (hinv.kRow k hlt).1
      have hfu := (hinv.kRow k hlt).2
      have hRw : w.heap.size < wr.heap.size := by omega
      have hk1 : k + 1 ≤ len := hlt
      clear hinv
      go_wp2
      go_region
      all_goals
        go_wp2
        go_roundw
        case rel =>
          refine ⟨k + 1, hk1, by go_num, ?_⟩
          repeat (first | refine KInv.drew ?_ | refine KInv.cellStore (k := k) ?_ (k + 1) | refine KInv.cellPut ?_ _ _ | refine KInv.alloc ?_ _ | exact INV.out)
        case measure => simp [intOf]; omega
    · have hbel := hinv.kBel
      clear hinv hc
      cases a1
      all_goals
        go_wp2_with (go_at_call 4; refine (desc30 _ _).mono ?_; rintro e w' ⟨rfl, rfl⟩)
        go_ret
        exact ⟨ret_true (by decide +kernel), hbel⟩

set_option maxHeartbeats 400000 in
theorem k3e (a0 : Int) (a1 : Bool) (a2 : Int) (a3 : ByteArray) (ao : Option Addr) (cap : Nat) (w : World) (g0 : 0 ≤ a0) (g1 : a0 ≤ 255) (hr : a0 % 4 = 3) :
    Calls Ybaf.prog 3 #[.int .u8 a0, .bool a1, .int .u64 a2, .string a3, .slice ao 0 cap] w fun e w' => e = .returned (.bool true) ∧ Below w.heap.size w w' := by
  obtain ⟨i0, hi, hz0, hz1, hz2⟩ := info_parts Ybaf.info29
  go_enter Ybaf.func3, Ybaf.ntmps3
  go_wp2_with (at_make; refine wpList_make_own _ rfl (.const (.int .i64 0)) (.tmp 27) 27 rfl w.heap.size 29 i0 (.slice none 0 0) 1 Ybaf.underlying27 hi hz0 hz1 .i64 .i64 _ 0 rfl rfl (by omega) (by rw [hz2]; omega) (by unfold maxLen; omega) (Nat.le_refl _) ?_; intro w1 hown hgrow)
  have hst := KInv.begins (t := 27) rfl hown hgrow
  clear hown hgrow
  go_loopw [18] (fun i wr => i = .int .i64 0 ∧ KInv w.heap.size w1.heap.size 0 0 w wr) (fun _ _ => 0)
  case atStart => exact ⟨rfl, hst⟩
  case round =>
    obtain ⟨rfl, hinv⟩ := hrel
    have hbel := hinv.kBel
    clear hinv hst
    cases a1
    all_goals
      go_wp2_with (go_at_call 4; refine (desc30 _ _).mono ?_; rintro e w' ⟨rfl, rfl⟩)
      go_ret
      exact ⟨ret_true (by decide +kernel), hbel⟩

end Go.Proofs.YbulkanzsFmt
