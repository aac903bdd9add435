/-
  slices.Clone, and the laws on rows that a loop fills.
-/
import Derived.Test.YbulkaobiOk
namespace Go.Proofs.Ybulkaobi
open Go.RowKit
set_option linter.unusedSimpArgs false
set_option linter.unusedVariables false

theorem Yba.info3 : (Yba.prog.info? 3).map (fun i => (i.zero, i.size, i.bytes)) = some (some (.int .i64 0), 1, 8) := by kernel_rfl

theorem heap_new (w : World) (o : Obj) : (w.alloc o).heap[w.heap.size]? = some o := by
  show (w.heap.push o)[w.heap.size]? = some o
  simp

theorem own_empty (w : World) (base : Nat) (e : TypeId) (hb : base ≤ w.heap.size) : (w.alloc (.cells #[] e)).ownsRow base e 1 (.slice (some ⟨w.heap.size, 0, none⟩) 0 0) 0 [] :=
  ⟨rfl, Or.inr ⟨w.heap.size, 0, #[], rfl, hb, heap_new w _, Nat.le_refl _, Nat.zero_le _, rfl, rfl⟩⟩

theorem own_cells {w : World} {base e n : Nat} {v : Value} {xs : List Value} {size : Nat} (h : w.ownsRow base e size v n xs) (hn : 0 < n) : ∃ g cap, v = .slice (some ⟨g, 0, none⟩) n cap ∧ ∀ j u, xs[j]? = some u → w.cell? ⟨g, j, none⟩ = some u := by
  obtain ⟨h1, ⟨_, h2⟩ | ⟨g, cap, cur, h2, h3, h4, h5, h6, h7, h8⟩⟩ := h
  · omega
  · refine ⟨g, cap, h2, fun j u hj => ?_⟩
    subst h8
    rw [List.getElem?_take] at hj
    split at hj
    · simp only [World.cell?, h4]
      simpa using hj
    · exact absurd hj (by simp)

set_option maxHeartbeats 400000 in
theorem clone_any (b off n cap : Nat) (zs : List Int) (hl : zs.length = n) (hn0 : 0 < n) (hn : n ≤ 1024) (w : World) (hc : ∀ j, j < n → w.cell? ⟨b, off + j, none⟩ = some (.int .i64 (zs.getD j 0))) :
    Calls Yba.prog 8 #[.slice (some ⟨b, off, none⟩) n cap] w fun e w' => ∃ cb cc, e = .returned (.slice (some ⟨cb, 0, none⟩) n cc) ∧ (∀ j, j < n → w'.cell? ⟨cb, j, none⟩ = some (.int .i64 (zs.getD j 0))) ∧ Below w.heap.size w w' := by
  obtain ⟨i0, hi0, hz0, hz1, hz2⟩ := info_parts Yba.info3
  have HI : Hid (Yba.prog.info? 3 = some i0) := hi0
  have HC : Hid (∀ j u, (zs.map (Value.int .i64))[j]? = some u → (w.alloc (.cells #[] 3)).cell? ((⟨b, off, none⟩ : Addr).add j) = some u) := by
    intro j u hj
    rw [List.getElem?_map] at hj
    have hjn : j < n := by
      rcases Nat.lt_or_ge j n with h | h
      · exact h
      · rw [List.getElem?_eq_none (by omega)] at hj; exact absurd hj (by simp)
    have h1 := hc j hjn
    have h2 := cell_up h1 ((Below.refl w.heap.size w).alloc (Nat.le_refl _) (.cells #[] 3))
    have e : ((⟨b, off, none⟩ : Addr).add j) = ⟨b, off + j, none⟩ := by cases j <;> simp [Addr.add]
    rw [e, h2, ← hj]
    have : zs[j]? = some (zs.getD j 0) := by simp [List.getD, List.getElem?_eq_getElem (show j < zs.length by omega)]
    rw [this]; rfl
  clear hi0 hc
  have q29 : ∀ w a l c, (binOp .eql 29 (.slice a l c) (.slice none 0 0)).run Yba.prog w = .ok (.bool a.isNone) w := fun w a l c => run_eql_slice_nil w 29 3 a l c Yba.underlying29
  go_enter Yba.func8, Yba.ntmps8
  go_wp2_with (first
    | (at_builtin; refine wpList_append_own _ rfl (.tmp 5) (.tmp 6) 29 rfl w.heap.size 3 i0 _ 1 8 Yba.underlying29 HI.out hz0 hz1 hz2 rfl (by decide) _ _ _ rfl (own_empty w _ 3 (Nat.le_refl _)) ⟨b, off, none⟩ n cap (zs.map (Value.int .i64)) rfl (by simp [hl]) HC.out (ints_oneCell _ _) (by unfold maxLen; omega) (by omega) (by simp) ?_; intro v' w3 hown' hgrow hnil))
  go_ret
  rw [Nat.zero_add, List.nil_append] at hown'
  obtain ⟨g, cp, rfl, hg⟩ := own_cells hown' hn0
  refine ⟨g, cp, rfl, fun j hj => hg j _ ?_, ((Below.refl _ _).alloc (Nat.le_refl _) _).grown hgrow (by simp) ?_⟩
  · rw [List.getElem?_map]
    have : zs[j]? = some (zs.getD j 0) := by simp [List.getD, List.getElem?_eq_getElem (show j < zs.length by omega)]
    rw [this]; rfl
  · exact own_block (own_empty w w.heap.size 3 (Nat.le_refl _))

/-- Stores into a row at or above B turn nothing below B. -/
theorem below_setCells {B : Nat} {a : World} (b : Nat) (hb : B ≤ b) : ∀ (vs : List Value) (o : Nat) (w : World), Below B a w → Below B a (w.setCells b o vs)
  | [], _, _, h => h
  | v :: r, o, w, h => by
    rw [World.setCells]
    exact below_setCells b hb r (o + 1) _ (h.setCell (p := ⟨b, o, none⟩) hb v)

theorem size_setCells (b : Nat) : ∀ (vs : List Value) (o : Nat) (w : World), (w.setCells b o vs).heap.size = w.heap.size
  | [], _, _ => rfl
  | v :: r, o, w => by rw [World.setCells, size_setCells b r]; simp

/-- A block that is known whole: its cells are there, may be written, and read as they stand. -/
theorem there_block {w : World} {b : Nat} {c : Array Value} {t : TypeId} (h : w.heap[b]? = some (.cells c t (0, 0))) {n : Nat} (hn : c.size = n) : w.there b 0 n := fun j hj => by
  subst hn
  constructor
  · simp [World.cell?, h, hj]
  · simp [World.frozen?, h]
theorem cells_block {w : World} {b : Nat} {c : Array Value} {t : TypeId} (h : w.heap[b]? = some (.cells c t (0, 0))) (j : Nat) : w.cell? ⟨b, j, none⟩ = c[j]? := by
  simp [World.cell?, h]
theorem free_block {w : World} {b : Nat} {c : Array Value} {t : TypeId} (h : w.heap[b]? = some (.cells c t (0, 0))) (j : Nat) : w.frozen? ⟨b, j, none⟩ = false := by
  simp [World.frozen?, h]
theorem range_block {w : World} {b : Nat} {cs : List Value} {t : TypeId} (h : w.heap[b]? = some (.cells cs.toArray t (0, 0))) : w.rangeAt b 0 cs := fun j v hv => by
  rw [Nat.zero_add, cells_block h]; simpa using hv

/-- 'make([]T, n)': the block written out. -/
theorem wpList_make_block {P : Program} {w : World} {ops : Array Oper} {rest : List Oper} {o : Oper} {a : Act} {Q : Exit → Act → World → Prop}
    (hg : o.guard = none) (l c : Operand) (t : TypeId) (hop : o.op = Op.makeSlice t l c)
    (e : TypeId) (i : TypeInfo) (z : Value) (size : Nat) (h1 : P.underlying t = some (.slice e)) (h2 : P.info? e = some i) (h3 : i.zero = some z) (h4 : i.size = size)
    (kl kc : IntKind) (L C : Int) (n : Nat) (hl : a.eval l = .int kl L) (hc : a.eval c = .int kc C) (hL : L = (n : Int)) (hC : C = (n : Int)) (b2 : i.bytes * n ≤ 281474976710656) (b3 : n ≤ 9223372036854775807)
    (cells : Array Value) (hcells : madeCells z.cells (n * size) = cells)
    (hK : wpList P ops Q rest (a.put o.dst (.slice (some ⟨w.heap.size, 0, none⟩) n n)) (w.alloc (.cells cells e))) :
    wpList P ops Q (o :: rest) a w := by
  refine wpList_plain hg fun K hK' => ?_
  subst hL
  subst hC
  have hb' : (i.bytes : Int) * (n : Int) ≤ 281474976710656 := by
    have h : ((i.bytes * n : Nat) : Int) ≤ 281474976710656 := by omega
    rwa [Int.natCast_mul] at h
  have hr := run_make (P := P) w t e i z h1 h2 h3 kl kc n n (by omega) (Int.le_refl _) hb' (by omega)
  simp only [Int.toNat_natCast, h4, hcells] at hr
  unfold Oper.wp
  simp [execOp, hop, hl, hc, hr, Result.andThen]
  exact hK' _ _ hK

theorem block_setCells {b g : Nat} (hne : g ≠ b) : ∀ (vs : List Value) (o : Nat) (w : World), (w.setCells b o vs).heap[g]? = w.heap[g]?
  | [], _, _ => rfl
  | v :: r, o, w => by
    rw [World.setCells, block_setCells hne r (o + 1)]
    exact Below.heap_setCell w ⟨b, o, none⟩ v g hne

theorem mul_row {k n s j : Nat} (hk : k < n) (hj : j < s) : k * s + j < n * s := by
  have := Nat.mul_le_mul_right s (show k + 1 ≤ n from hk)
  rw [Nat.add_mul, Nat.one_mul] at this
  omega
theorem mul_apart {k j s : Nat} (h : j < k) : j * s + s ≤ k * s := by
  have := Nat.mul_le_mul_right s (show j + 1 ≤ k from h)
  rw [Nat.add_mul, Nat.one_mul] at this
  omega

/-- A loop that fills a row V: all other blocks are as they were; the first k elements are laid. -/
structure GL (N V n s : Nat) (wc w : World) (f : Nat → List Value) (k : Nat) (wr : World) : Prop where
  kKeep : ∀ b, b < wc.heap.size → b ≠ V → wr.heap[b]? = wc.heap[b]?
  kSize : wc.heap.size ≤ wr.heap.size
  kThere : wr.there V 0 (n * s)
  kDone : ∀ j, j < k → wr.rangeAt V (j * s) (f j)
  kBel : Below N w wr

theorem GL.grow {N V n s : Nat} {wc w : World} {f : Nat → List Value} {k : Nat} {wr w1 : World} (h : GL N V n s wc w f k wr) (hb : Below wr.heap.size wr w1) (hV : V < wc.heap.size) (hN : N ≤ wr.heap.size) : GL N V n s wc w f k w1 := by
  have hs := h.kSize
  refine ⟨fun b h1 h2 => (hb.block b (by omega)).trans (h.kKeep b h1 h2), by have := hb.size; omega, fun j hj => ?_, fun j hj i v hv => ?_, h.kBel.trans (hb.mono hN)⟩
  · rw [hb.cell (by show V < _; omega), hb.frozen (by show V < _; omega)]; exact h.kThere j hj
  · rw [hb.cell (by show V < _; omega)]; exact h.kDone j hj i v hv
theorem GL.cellsIn {N V n s : Nat} {wc w : World} {f : Nat → List Value} {k : Nat} {w1 : World} (h : GL N V n s wc w f k w1) (hN : N ≤ V) (hk : k < n) (hf : ∀ j, (f j).length = s) : GL N V n s wc w f (k + 1) (w1.setCells V (k * s) (f k)) := by
  have ht : w1.there V (k * s) (f k).length := fun j hj => by
    rw [hf k] at hj
    have := h.kThere (k * s + j) (mul_row hk hj)
    simpa using this
  refine ⟨fun b h1 h2 => ?_, by rw [size_setCells]; exact h.kSize, fun j hj => ?_, fun j hj => ?_, below_setCells V hN _ _ _ h.kBel⟩
  · rw [block_setCells h2]; exact h.kKeep b h1 h2
  · have := World.there_setCells h.kThere V (k * s) (f k)
    exact this j hj
  · by_cases e : j = k
    · subst e
      exact World.rangeAt_setCells_same _ _ _ _ ht
    · refine World.rangeAt_setCells_apart (h.kDone j (by omega)) _ _ _ ?_
      right
      left
      rw [hf j]
      have := mul_apart (s := s) (show j < k by omega)
      omega


theorem gl_cell {N V n s : Nat} {wc w : World} {f : Nat → List Value} {k : Nat} {w1 : World} (h : GL N V n s wc w f k w1) (hk : k < n) (j : Nat) (hj : j < s) : (∃ u, w1.cell? ⟨V, k * s + j, none⟩ = some u) ∧ w1.frozen? ⟨V, k * s + j, none⟩ = false := by
  have ht := h.kThere (k * s + j) (mul_row hk hj)
  rw [Nat.zero_add] at ht
  exact ⟨Option.isSome_iff_exists.1 ht.1, ht.2⟩

end Go.Proofs.Ybulkaobi
