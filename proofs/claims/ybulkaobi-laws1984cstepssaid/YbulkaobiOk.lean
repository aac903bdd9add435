/-
  zzs1984cok.
-/
import Derived.Test.YbulkaobiSteps
namespace Go.Proofs.Ybulkaobi
open Go.RowKit
set_option linter.unusedSimpArgs false
set_option linter.unusedVariables false

theorem run_eql_slice_nil {P : Program} (w : World) (t e : TypeId) (a : Option Addr) (l c : Nat) (h : P.underlying t = some (.slice e)) : (binOp .eql t (.slice a l c) (.slice none 0 0)).run P w = .ok (.bool a.isNone) w := by
  unfold binOp
  simp [run_equal_slice_nil w t e a l c h]

theorem below_drewN {B : Nat} {a w : World} (h : Below B a w) (n : Nat) : Below B a (w.drewN n) := ⟨h.os, h.tape, h.output, h.size, h.block⟩

set_option maxHeartbeats 800000 in
set_option maxRecDepth 20000 in
theorem ok_neg_nil (m inp : Int) (mv qv : Value) (w : World) (h1 : -2147483648 ≤ inp) (h2 : inp < 0) :
    Calls Yba.prog 11 #[.agg (stepN m inp (.slice none 0 0)).toArray, .int .i64 m, .int .i32 inp, mv, qv, .bool true] w fun e w' => e = .returned (.bool true) ∧ Below w.heap.size w w' := by
  have hw : IntKind.i64.wrap (inp + 1) = inp + 1 := by simp [IntKind.wrap, IntKind.signed, IntKind.bits]; omega
  have hw1 : IntKind.i64.wrap (-(inp + 1)) = -(inp + 1) := by simp [IntKind.wrap, IntKind.signed, IntKind.bits]; omega
  have hw2 : IntKind.u64.wrap (-(inp + 1)) = -1 - inp := by simp [IntKind.wrap, IntKind.signed, IntKind.bits]; omega
  have q29 : ∀ w a l c, (binOp .eql 29 (.slice a l c) (.slice none 0 0)).run Yba.prog w = .ok (.bool a.isNone) w := fun w a l c => run_eql_slice_nil w 29 3 a l c Yba.underlying29
  have q34 : ∀ w a l c, (binOp .eql 34 (.slice a l c) (.slice none 0 0)).run Yba.prog w = .ok (.bool a.isNone) w := fun w a l c => run_eql_slice_nil w 34 5 a l c Yba.underlying34
  go_enter Yba.func11, Yba.ntmps11
  go_wp2
  go_ret
  exact ⟨rfl, (Below.refl _ _).alloc (Nat.le_refl _) _⟩

set_option maxHeartbeats 800000 in
set_option maxRecDepth 20000 in
theorem ok_neg_pl (m inp : Int) (mv : Value) (po : Option Addr) (pn pc : Nat) (hp : pn ≤ 1024) (w : World) (h : RowAt w .i64 po pn) (h1 : -2147483648 ≤ inp) (h2 : inp < 0) :
    Calls Yba.prog 11 #[.agg (stepN m inp (.slice po pn pc)).toArray, .int .i64 m, .int .i32 inp, mv, .slice po pn pc, .bool false] w fun e w' => e = .returned (.bool true) ∧ Below w.heap.size w w' := by
  have hw : IntKind.i64.wrap (inp + 1) = inp + 1 := by simp [IntKind.wrap, IntKind.signed, IntKind.bits]; omega
  have hw1 : IntKind.i64.wrap (-(inp + 1)) = -(inp + 1) := by simp [IntKind.wrap, IntKind.signed, IntKind.bits]; omega
  have hw2 : IntKind.u64.wrap (-(inp + 1)) = -1 - inp := by simp [IntKind.wrap, IntKind.signed, IntKind.bits]; omega
  have H : Hid (∀ w', Below w.heap.size w w' → RowAt w' .i64 po pn) := fun w' hb => h.up hb
  clear h
  have q29 : ∀ w a l c, (binOp .eql 29 (.slice a l c) (.slice none 0 0)).run Yba.prog w = .ok (.bool a.isNone) w := fun w a l c => run_eql_slice_nil w 29 3 a l c Yba.underlying29
  have q34 : ∀ w a l c, (binOp .eql 34 (.slice a l c) (.slice none 0 0)).run Yba.prog w = .ok (.bool a.isNone) w := fun w a l c => run_eql_slice_nil w 34 5 a l c Yba.underlying34
  go_enter Yba.func11, Yba.ntmps11
  go_wp2_with (first
    | (go_at_call 13; refine (eq13_any po pn pc (by omega) _ (H.out _ ((Below.refl _ _).alloc (Nat.le_refl _) _))).mono ?_; rintro e w2 ⟨rfl, md, rfl⟩)
    | fail)
  go_ret
  exact ⟨rfl, below_drewN ((Below.refl _ _).alloc (Nat.le_refl _) _) md⟩

set_option maxHeartbeats 800000 in
set_option maxRecDepth 20000 in
theorem ok_pos_nil (m f : Int) (dO : Option Addr) (dn dc : Nat) (hdn : dn ≤ 9223372036854775807) (qv : Value) (mb moff nm mc t : Nat) (ht : t < nm) (hnm : nm ≤ 1024) (w : World) (c0 : w.cell? ⟨mb, moff + t * 2, none⟩ = some (.int .i64 f)) (c1 : w.cell? ⟨mb, moff + t * 2 + 1, none⟩ = some (.slice dO dn dc)) (h : RowAt w .u8 dO dn) :
    Calls Yba.prog 11 #[.agg (stepP m f (.slice dO dn dc) (.slice none 0 0)).toArray, .int .i64 m, .int .i32 (t : Int), .slice (some ⟨mb, moff, none⟩) nm mc, qv, .bool true] w fun e w' => e = .returned (.bool true) ∧ Below w.heap.size w w' := by
  have hml : mb < w.heap.size := World.block_lt_of_cell? w _ c0
  have hml1 : mb < w.heap.size + 1 := by omega
  have ht' : (t : Int) < (nm : Int) := by omega
  have H : Hid (∀ w', Below w.heap.size w w' → RowAt w' .u8 dO dn) := fun w' hb => h.up hb
  clear h
  have q29 : ∀ w a l c, (binOp .eql 29 (.slice a l c) (.slice none 0 0)).run Yba.prog w = .ok (.bool a.isNone) w := fun w a l c => run_eql_slice_nil w 29 3 a l c Yba.underlying29
  have q34 : ∀ w a l c, (binOp .eql 34 (.slice a l c) (.slice none 0 0)).run Yba.prog w = .ok (.bool a.isNone) w := fun w a l c => run_eql_slice_nil w 34 5 a l c Yba.underlying34
  go_enter Yba.func11, Yba.ntmps11
  go_wp2_with (first
    | (go_at_call 14; refine (eq14_any dO dn dc hdn _ (H.out _ ?_)).mono ?_; rotate_left; rintro e w2 ⟨rfl, md, rfl⟩)
    | fail)
  · go_ret
    exact ⟨rfl, below_drewN (((Below.refl _ _).alloc (Nat.le_refl _) _).alloc (by simp) _) md⟩
  · exact ((Below.refl _ _).alloc (Nat.le_refl _) _).alloc (by simp) _

set_option maxHeartbeats 800000 in
set_option maxRecDepth 20000 in
theorem ok_pos_pl (m f : Int) (dO : Option Addr) (dn dc : Nat) (hdn : dn ≤ 9223372036854775807) (po : Option Addr) (pn pc : Nat) (hp : pn ≤ 1024) (mb moff nm mc t : Nat) (ht : t < nm) (hnm : nm ≤ 1024) (w : World) (c0 : w.cell? ⟨mb, moff + t * 2, none⟩ = some (.int .i64 f)) (c1 : w.cell? ⟨mb, moff + t * 2 + 1, none⟩ = some (.slice dO dn dc)) (h : RowAt w .u8 dO dn) (hp2 : RowAt w .i64 po pn) :
    Calls Yba.prog 11 #[.agg (stepP m f (.slice dO dn dc) (.slice po pn pc)).toArray, .int .i64 m, .int .i32 (t : Int), .slice (some ⟨mb, moff, none⟩) nm mc, .slice po pn pc, .bool false] w fun e w' => e = .returned (.bool true) ∧ Below w.heap.size w w' := by
  have hml : mb < w.heap.size := World.block_lt_of_cell? w _ c0
  have hml1 : mb < w.heap.size + 1 := by omega
  have ht' : (t : Int) < (nm : Int) := by omega
  have H : Hid (∀ w', Below w.heap.size w w' → RowAt w' .u8 dO dn) := fun w' hb => h.up hb
  have H2 : Hid (∀ w', Below w.heap.size w w' → RowAt w' .i64 po pn) := fun w' hb => hp2.up hb
  clear h hp2
  have q29 : ∀ w a l c, (binOp .eql 29 (.slice a l c) (.slice none 0 0)).run Yba.prog w = .ok (.bool a.isNone) w := fun w a l c => run_eql_slice_nil w 29 3 a l c Yba.underlying29
  have q34 : ∀ w a l c, (binOp .eql 34 (.slice a l c) (.slice none 0 0)).run Yba.prog w = .ok (.bool a.isNone) w := fun w a l c => run_eql_slice_nil w 34 5 a l c Yba.underlying34
  go_enter Yba.func11, Yba.ntmps11
  go_wp2_with (first
    | (go_at_call 13; refine (eq13_any po pn pc (by omega) _ (H2.out _ ((Below.refl _ _).alloc (Nat.le_refl _) _))).mono ?_; rintro e w2 ⟨rfl, md, rfl⟩)
    | (go_at_call 14; refine (eq14_any dO dn dc hdn _ (H.out _ ?_)).mono ?_; rotate_left; rintro e w2 ⟨rfl, md2, rfl⟩)
    | fail)
  · go_ret
    exact ⟨rfl, below_drewN ((below_drewN ((Below.refl _ _).alloc (Nat.le_refl _) _) md).alloc (by simp [World.drewN]) _) md2⟩
  · exact (below_drewN ((Below.refl _ _).alloc (Nat.le_refl _) _) md).alloc (by simp [World.drewN]) _

/-- The messages that the law was handed. -/
structure Msgs (w : World) (mo : Option Addr) (nm : Nat) (F : Nat → Int) (D : Nat → Value) : Prop where
  cells : 0 < nm → ∃ mb moff, mo = some ⟨mb, moff, none⟩ ∧ ∀ t, t < nm → w.cell? ⟨mb, moff + t * 2, none⟩ = some (.int .i64 (F t)) ∧ w.cell? ⟨mb, moff + t * 2 + 1, none⟩ = some (D t)
  bytes : ∀ t, ∃ dO dn dc, D t = .slice dO dn dc ∧ dn ≤ 9223372036854775807 ∧ RowAt w .u8 dO dn
theorem Msgs.up {w w' : World} {mo : Option Addr} {nm : Nat} {F : Nat → Int} {D : Nat → Value} (h : Msgs w mo nm F D) (hb : Below w.heap.size w w') : Msgs w' mo nm F D :=
  ⟨fun hn => by
    obtain ⟨mb, moff, h1, h2⟩ := h.cells hn
    exact ⟨mb, moff, h1, fun t ht => ⟨cell_up (h2 t ht).1 hb, cell_up (h2 t ht).2 hb⟩⟩, fun t => by
    obtain ⟨dO, dn, dc, h1, h2, h3⟩ := h.bytes t
    exact ⟨dO, dn, dc, h1, h2, h3.up hb⟩⟩
theorem Msgs.form {w : World} {mo : Option Addr} {nm : Nat} {F : Nat → Int} {D : Nat → Value} (h : Msgs w mo nm F D) : ∀ t, ∃ dO dn dc, D t = .slice dO dn dc := fun t => by
  obtain ⟨dO, dn, dc, h1, _⟩ := h.bytes t
  exact ⟨dO, dn, dc, h1⟩

/-- zzs1984cok on a step ahead. -/
theorem ok_nil {m inp : Int} {F : Nat → Int} {D : Nat → Value} {mo : Option Addr} {nm mc : Nat} (hnm : nm ≤ 1024) (qv : Value) (w : World) (ho : okIn nm inp) (hM : Msgs w mo nm F D) :
    Calls Yba.prog 11 #[.agg (stepv m F D (.slice none 0 0) inp).toArray, .int .i64 m, .int .i32 inp, .slice mo nm mc, qv, .bool true] w fun e w' => e = .returned (.bool true) ∧ Below w.heap.size w w' := by
  obtain ⟨hlo, h1 | ⟨t, rfl, ht⟩⟩ := ho
  · rw [stepv_neg h1]
    exact ok_neg_nil m inp _ _ w hlo h1
  · rw [stepv_pos t]
    obtain ⟨mb, moff, rfl, hc⟩ := hM.cells (by omega)
    obtain ⟨dO, dn, dc, hd, hdn, hr⟩ := hM.bytes t
    obtain ⟨c0, c1⟩ := hc t ht
    rw [hd] at c1 ⊢
    exact ok_pos_nil m (F t) dO dn dc hdn qv mb moff nm mc t ht hnm w c0 c1 hr

/-- zzs1984cok on the last step. -/
theorem ok_pl {m inp : Int} {F : Nat → Int} {D : Nat → Value} {mo : Option Addr} {nm mc : Nat} (hnm : nm ≤ 1024) (po : Option Addr) (pn pc : Nat) (hp : pn ≤ 1024) (w : World) (ho : okIn nm inp) (hM : Msgs w mo nm F D) (hP : RowAt w .i64 po pn) :
    Calls Yba.prog 11 #[.agg (stepv m F D (.slice po pn pc) inp).toArray, .int .i64 m, .int .i32 inp, .slice mo nm mc, .slice po pn pc, .bool false] w fun e w' => e = .returned (.bool true) ∧ Below w.heap.size w w' := by
  obtain ⟨hlo, h1 | ⟨t, rfl, ht⟩⟩ := ho
  · rw [stepv_neg h1]
    exact ok_neg_pl m inp _ po pn pc hp w hP hlo h1
  · rw [stepv_pos t]
    obtain ⟨mb, moff, rfl, hc⟩ := hM.cells (by omega)
    obtain ⟨dO, dn, dc, hd, hdn, hr⟩ := hM.bytes t
    obtain ⟨c0, c1⟩ := hc t ht
    rw [hd] at c1 ⊢
    exact ok_pos_pl m (F t) dO dn dc hdn po pn pc hp mb moff nm mc t ht hnm w c0 c1 hr hP

end Go.Proofs.Ybulkaobi
