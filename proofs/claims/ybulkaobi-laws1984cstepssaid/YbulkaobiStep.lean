/-
  zzs1984cmap and stepOf.
-/
import Derived.Test.YbulkaobiEq
import Derived.BigRegion
import Derived.Deep.MidRow
import Derived.Deep.RegionHeld3
namespace Go.Proofs.Ybulkaobi
open Go.RowKit
set_option linter.unusedSimpArgs false
set_option linter.unusedVariables false

/-- zzs1984cmap. -/
def mapx (x : Int) (n : Nat) : Int := if x < 0 then x else if n = 0 then -1 - x else x % n

theorem ret_i32 {a b : Int} (h : a = b) : Ending.returned (.int .i32 a) = .returned (.int .i32 b) := by rw [h]

theorem mapx_neg {x : Int} {n : Nat} (h : x < 0) : mapx x n = x := by simp [mapx, h]
theorem mapx_none {x : Int} (h : ¬ x < 0) : mapx x 0 = -1 - x := by simp [mapx, h]
theorem mapx_pos {x : Int} {n : Nat} (h : ¬ x < 0) (hn : 0 < n) : mapx x n = x % n := by
  have : ¬ n = 0 := by omega
  simp [mapx, h, this]
theorem rem_bd {x : Int} {n : Nat} (h : 0 ≤ x) (hn : 0 < n) : 0 ≤ x % (n : Int) ∧ x % (n : Int) < n ∧ x % (n : Int) ≤ x :=
  ⟨Int.emod_nonneg _ (by omega), Int.emod_lt_of_pos _ (by omega), by
    have h1 := Int.emod_add_mul_ediv x n
    have h2 : 0 ≤ (n : Int) * (x / n) := Int.mul_nonneg (by omega) (Int.ediv_nonneg h (by omega))
    omega⟩

theorem mapx_bd (x : Int) (n : Nat) (h1 : -2147483648 ≤ x) (h2 : x ≤ 2147483647) : -2147483648 ≤ mapx x n ∧ mapx x n ≤ 2147483647 ∧ (mapx x n < 0 ∨ ∃ t : Nat, mapx x n = t ∧ t < n) := by
  by_cases h : x < 0
  · rw [mapx_neg h]; exact ⟨h1, h2, Or.inl h⟩
  · by_cases hn : n = 0
    · subst hn; rw [mapx_none h]; exact ⟨by omega, by omega, Or.inl (by omega)⟩
    · rw [mapx_pos h (by omega)]
      have := rem_bd (x := x) (n := n) (by omega) (by omega)
      exact ⟨by omega, by omega, Or.inr ⟨(x % (n : Int)).toNat, by omega, by omega⟩⟩

set_option maxHeartbeats 400000 in
theorem cmap_any (x : Int) (n : Nat) (h1 : -2147483648 ≤ x) (h2 : x ≤ 2147483647) (hn : n ≤ 1024) (w : World) :
    Calls Yba.prog 9 #[.int .i32 x, .int .i64 (n : Int)] w fun e w' => e = .returned (.int .i32 (mapx x n)) ∧ w = w' := by
  by_cases h : x < 0
  · go_enter Yba.func9, Yba.ntmps9
    go_wp2
    go_ret
    exact ⟨ret_i32 (mapx_neg h).symm, rfl⟩
  · by_cases hz : n = 0
    · subst hz
      have hw : IntKind.i32.wrap (-1 - x) = -1 - x := by simp [IntKind.wrap, IntKind.signed, IntKind.bits]; omega
      go_enter Yba.func9, Yba.ntmps9
      go_wp2
      go_ret
      exact ⟨ret_i32 (by rw [mapx_none (by omega)]), rfl⟩
    · have hb := rem_bd (x := x) (n := n) (by omega) (by omega)
      have hn0 : 0 < n := by omega
      have hne : ((n : Int) == 0) = false := by simpa using hz
      go_enter Yba.func9, Yba.ntmps9
      go_wp2
      go_ret
      exact ⟨ret_i32 (by rw [mapx_pos (by omega) hn0]), rfl⟩

/-- The cells of a step. -/
abbrev stepN (m inp : Int) (pv : Value) : List Value := [.int .i64 2, .int .i64 m, .int .i64 0, .slice none 0 0, .int .u64 (-1 - inp), pv]
abbrev stepP (m f : Int) (d pv : Value) : List Value := [.int .i64 1, .int .i64 m, .int .i64 f, d, .int .u64 0, pv]

set_option maxHeartbeats 400000 in
theorem step_neg (S cb i nc cc : Nat) (m inp : Int) (po bo : Option Addr) (pn pc bn bc : Nat) (w : World) (hin : inp < 0) (hb : -2147483648 ≤ inp) (hi : i < nc) (hnc : nc ≤ 1024)
    (hS : w.cell? ⟨S, 9, none⟩ = some (.slice (some ⟨cb, 0, none⟩) nc cc)) (hm : w.cell? ⟨cb, i, none⟩ = some (.int .i64 m)) (hSl : S < w.heap.size) (hcl : cb < w.heap.size) :
    Calls Yba.prog 12 #[.pointer (some ⟨S, 0, none⟩), .int .i64 (i : Int), .agg #[.int .i32 0, .int .i32 0, .slice po pn pc, .pointer none, .slice bo bn bc, .int .i32 inp]] w fun e w' => e = .returned (.agg (stepN m inp (.slice po pn pc)).toArray) ∧ Below w.heap.size w w' := by
  have hw : IntKind.i32.wrap (-1 - inp) = -1 - inp := by simp [IntKind.wrap, IntKind.signed, IntKind.bits]; omega
  have hw2 : IntKind.u64.wrap (-1 - inp) = -1 - inp := by simp [IntKind.wrap, IntKind.signed, IntKind.bits]; omega
  go_enter Yba.func12, Yba.ntmps12
  go_wp2
  exact bodyPost_ret (v := .agg (stepN m inp (.slice po pn pc)).toArray) (by simp [results, Yba.results12, go_sem]) rfl ⟨rfl, ((Below.refl _ _).alloc (Nat.le_refl _) _).alloc (by simp) _⟩

set_option maxHeartbeats 400000 in
theorem step_pos (S cb M i nc cc t nm mc : Nat) (m f : Int) (d : Value) (dO : Option Addr) (dn dc : Nat) (hd : d = .slice dO dn dc) (po bo : Option Addr) (pn pc bn bc : Nat) (w : World) (ht : t < nm) (hnm : nm ≤ 1024) (hi : i < nc) (hnc : nc ≤ 1024)
    (hS : w.cell? ⟨S, 9, none⟩ = some (.slice (some ⟨cb, 0, none⟩) nc cc)) (hm : w.cell? ⟨cb, i, none⟩ = some (.int .i64 m)) (hSl : S < w.heap.size) (hcl : cb < w.heap.size)
    (hS2 : w.cell? ⟨S, 30, none⟩ = some (.slice (some ⟨M, 0, none⟩) nm mc)) (hMl : M < w.heap.size)
    (h0 : w.cell? ⟨M, t * 4, none⟩ = some (.int .i64 f)) (h1 : w.cell? ⟨M, t * 4 + 1, none⟩ = some d) (h2 : w.cell? ⟨M, t * 4 + 2, none⟩ = some .nilIface) (h3 : w.cell? ⟨M, t * 4 + 3, none⟩ = some (.int .u64 0)) :
    Calls Yba.prog 12 #[.pointer (some ⟨S, 0, none⟩), .int .i64 (i : Int), .agg #[.int .i32 0, .int .i32 0, .slice po pn pc, .pointer none, .slice bo bn bc, .int .i32 (t : Int)]] w fun e w' => e = .returned (.agg (stepP m f d (.slice po pn pc)).toArray) ∧ Below w.heap.size w w' := by
  subst hd
  have hSl1 : S < w.heap.size + 1 := by omega
  have hSl2 : S < w.heap.size + 1 + 1 := by omega
  have hMl1 : M < w.heap.size + 1 := by omega
  have hMl2 : M < w.heap.size + 1 + 1 := by omega
  have ht' : (t : Int) < (nm : Int) := by omega
  go_enter Yba.func12, Yba.ntmps12
  go_wp2
  go_region
  go_wp2
  exact bodyPost_ret (v := .agg (stepP m f (.slice dO dn dc) (.slice po pn pc)).toArray) (by simp [results, Yba.results12, go_sem]) rfl ⟨rfl, ((((Below.refl _ _).alloc (Nat.le_refl _) _).alloc (by simp) _).alloc (by simp; omega) _).drew⟩

/-- The step that an input gives. -/
def stepv (m : Int) (F : Nat → Int) (D : Nat → Value) (pv : Value) (inp : Int) : List Value := if inp < 0 then stepN m inp pv else stepP m (F inp.toNat) (D inp.toNat) pv
theorem stepv_neg {m : Int} {F : Nat → Int} {D : Nat → Value} {pv : Value} {inp : Int} (h : inp < 0) : stepv m F D pv inp = stepN m inp pv := by simp [stepv, h]
theorem stepv_pos {m : Int} {F : Nat → Int} {D : Nat → Value} {pv : Value} (t : Nat) : stepv m F D pv (t : Int) = stepP m (F t) (D t) pv := by
  have h : ¬ (t : Int) < 0 := by omega
  simp [stepv, h]
theorem stepv_len (m : Int) (F : Nat → Int) (D : Nat → Value) (pv : Value) (inp : Int) : (stepv m F D pv inp).length = 6 := by unfold stepv; split <;> rfl

/-- An input that stepOf takes. -/
def okIn (nm : Nat) (inp : Int) : Prop := -2147483648 ≤ inp ∧ (inp < 0 ∨ ∃ t : Nat, inp = t ∧ t < nm)

/-- The search as the law lays it: the members, the messages. -/
structure Env (S cb M i nc cc nm : Nat) (m : Int) (F : Nat → Int) (D : Nat → Value) (w : World) : Prop where
  e9 : w.cell? ⟨S, 9, none⟩ = some (.slice (some ⟨cb, 0, none⟩) nc cc)
  e30 : w.cell? ⟨S, 30, none⟩ = some (.slice (some ⟨M, 0, none⟩) nm nm)
  em : w.cell? ⟨cb, i, none⟩ = some (.int .i64 m)
  eM : ∀ t, t < nm → w.cell? ⟨M, t * 4, none⟩ = some (.int .i64 (F t)) ∧ w.cell? ⟨M, t * 4 + 1, none⟩ = some (D t) ∧ w.cell? ⟨M, t * 4 + 2, none⟩ = some .nilIface ∧ w.cell? ⟨M, t * 4 + 3, none⟩ = some (.int .u64 0)

theorem cell_up {w w' : World} {a : Addr} {v : Value} (h : w.cell? a = some v) (hb : Below w.heap.size w w') : w'.cell? a = some v := by
  rw [hb.cell (World.block_lt_of_cell? w _ h)]; exact h
theorem Env.up {S cb M i nc cc nm : Nat} {m : Int} {F : Nat → Int} {D : Nat → Value} {w w' : World} (h : Env S cb M i nc cc nm m F D w) (hb : Below w.heap.size w w') : Env S cb M i nc cc nm m F D w' :=
  ⟨cell_up h.e9 hb, cell_up h.e30 hb, cell_up h.em hb, fun t ht => by
    obtain ⟨a, b, c, d⟩ := h.eM t ht
    exact ⟨cell_up a hb, cell_up b hb, cell_up c hb, cell_up d hb⟩⟩

theorem step_all {S cb M i nc cc nm : Nat} {m : Int} {F : Nat → Int} {D : Nat → Value} (hD : ∀ t, ∃ dO dn dc, D t = .slice dO dn dc) (hnm : nm ≤ 1024) (hi : i < nc) (hnc : nc ≤ 1024) (inp : Int) (ho : okIn nm inp) (po bo : Option Addr) (pn pc bn bc : Nat) (w : World) (h : Env S cb M i nc cc nm m F D w) :
    Calls Yba.prog 12 #[.pointer (some ⟨S, 0, none⟩), .int .i64 (i : Int), .agg #[.int .i32 0, .int .i32 0, .slice po pn pc, .pointer none, .slice bo bn bc, .int .i32 inp]] w fun e w' => e = .returned (.agg (stepv m F D (.slice po pn pc) inp).toArray) ∧ Below w.heap.size w w' := by
  obtain ⟨hlo, h1 | ⟨t, rfl, ht⟩⟩ := ho
  · rw [stepv_neg h1]
    exact step_neg S cb i nc cc m inp po bo pn pc bn bc w h1 hlo hi hnc h.e9 h.em (World.block_lt_of_cell? w _ h.e9) (World.block_lt_of_cell? w _ h.em)
  · rw [stepv_pos t]
    obtain ⟨a, b, c, d⟩ := h.eM t ht
    obtain ⟨dO, dn, dc, hd⟩ := hD t
    exact step_pos S cb M i nc cc t nm nm m (F t) (D t) dO dn dc hd po bo pn pc bn bc w ht hnm hi hnc h.e9 h.em (World.block_lt_of_cell? w _ h.e9) (World.block_lt_of_cell? w _ h.em) h.e30 (World.block_lt_of_cell? w _ a) a b c d

/-- Rows of six cells, one behind the other. -/
def rowsTo (g : Nat → List Value) : Nat → List Value
  | 0 => []
  | k + 1 => rowsTo g k ++ g k
theorem rowsTo_len {g : Nat → List Value} (h : ∀ j, (g j).length = 6) : ∀ k, (rowsTo g k).length = k * 6
  | 0 => rfl
  | k + 1 => by rw [rowsTo, List.length_append, rowsTo_len h k, h k]; omega
theorem rowsTo_get {g : Nat → List Value} (h : ∀ j, (g j).length = 6) : ∀ k j f, j < k → f < 6 → (rowsTo g k)[j * 6 + f]? = (g j)[f]?
  | 0, j, _, hj, _ => absurd hj (Nat.not_lt_zero _)
  | k + 1, j, f, hj, hf => by
    rw [rowsTo]
    by_cases e : j = k
    · subst e
      rw [List.getElem?_append_right (by rw [rowsTo_len h]; omega), rowsTo_len h]
      congr 1
      omega
    · rw [List.getElem?_append_left (by rw [rowsTo_len h]; omega)]
      exact rowsTo_get h k j f (by omega) hf
theorem rowsTo_congr {g g' : Nat → List Value} : ∀ k, (∀ j, j < k → g j = g' j) → rowsTo g k = rowsTo g' k
  | 0, _ => rfl
  | k + 1, h => by rw [rowsTo, rowsTo, rowsTo_congr k (fun j hj => h j (by omega)), h k (by omega)]

end Go.Proofs.Ybulkaobi
