/-
  Genesis: laws for the one statement that makes the state, and for the loop that lays the validators.
-/
import Derived.Test.YbulkanzsEpoch
import Derived.Deep.DeepCutAuto
namespace Go.Proofs.Ybulkanzs
open Go.RowKit YbulkanzsLaws
set_option linter.unusedSimpArgs false

theorem Yba.info65 : (Yba.prog.info? 65).map (fun i => (i.zero, i.size, i.bytes)) = some (some (.agg #[.int .u64 0, .int .u64 0, .bool false, .int .u64 0, .int .u64 0, .int .u64 0, .int .u64 0]), 7, 56) := by kernel_rfl

/-- make as one step of a region, the world behind it a letter. -/
theorem step_make {P : Program} {ops : Array Oper} {o : Oper} {a : Act} {w : World} {K : Act → World → Prop} {Q : Exit → Act → World → Prop} {E : Prop} (hgd : o.guard = none) (l c : Operand) (t : TypeId) (hop : o.op = Op.makeSlice t l c)
    (e : TypeId) (i : TypeInfo) (z : Value) (size : Nat) (h1 : P.underlying t = some (.slice e)) (h2 : P.info? e = some i) (h3 : i.zero = some z) (h4 : i.size = size)
    (kl kc : IntKind) (L C : Int) (n : Nat) (hl : a.eval l = .int kl L) (hc : a.eval c = .int kc C) (hL : L = (n : Int)) (hC : C = (n : Int)) (b2 : i.bytes * n ≤ 281474976710656) (b3 : n ≤ 9223372036854775807)
    (h : ∀ w', w'.heap[w.heap.size]? = some (.cells (madeCells z.cells (n * size)) e (0, 0)) → Below w.heap.size w w' → K (a.put o.dst (.slice (some ⟨w.heap.size, 0, none⟩) n n)) w') :
    if Region.wanted o (yielded ops a.tmps) = true then Oper.wp P o a w K Q else E := by
  have hw : Region.wanted o (yielded ops a.tmps) = true := by simp [Region.wanted, hgd]
  rw [if_pos hw]
  subst hL
  subst hC
  have hb' : (i.bytes : Int) * (n : Int) ≤ 281474976710656 := by
    have h : ((i.bytes * n : Nat) : Int) ≤ 281474976710656 := by omega
    rwa [Int.natCast_mul] at h
  have hr := run_make (P := P) w t e i z h1 h2 h3 kl kc n n (by omega) (Int.le_refl _) hb' (by omega)
  simp only [Int.toNat_natCast, h4] at hr
  unfold Oper.wp
  simp [execOp, hop, hl, hc, hr, Result.andThen]
  exact h _ (heap_alloc_last w _) ((Below.refl _ _).alloc (Nat.le_refl _) _)

/-- '[]uint64{0}' as one step of a region, the world behind it a letter. -/
theorem step_one {ops : Array Oper} {o : Oper} {a : Act} {w : World} {K : Act → World → Prop} {Q : Exit → Act → World → Prop} {E : Prop} (hgd : o.guard = none) (hop : o.op = Op.buildSlice 23 1 #[(0, .const (.int .u64 0))])
    (h : ∀ w', w'.heap[w.heap.size]? = some (.cells #[.int .u64 0] 22 (0, 0)) → Below w.heap.size w w' → K (a.put o.dst (.slice (some ⟨w.heap.size, 0, none⟩) 1 1)) w') :
    if Region.wanted o (yielded ops a.tmps) = true then Oper.wp Yba.prog o a w K Q else E := by
  have hw : Region.wanted o (yielded ops a.tmps) = true := by simp [Region.wanted, hgd]
  rw [if_pos hw]
  have h' := h _ (heap_alloc_last w _) ((Below.refl _ _).alloc (Nat.le_refl _) _)
  clear h
  unfold Oper.wp
  simp only [execOp, hop]
  go_simp
  exact h'

/-- The state's forty cells. -/
abbrev scs (P : List Value) (vv hs vs jj : Value) : List Value := P ++ [vv, .int .u64 0, .int .u64 0, .int .u64 0, .slice none 0 0, .int .u64 0, .int .u64 0, .slice none 0 0, .int .u64 0, hs, .int .u64 0, .int .u64 0, vs, jj, .int .u64 0, .int .u64 0, .int .u64 0, .slice none 0 0, .int .u64 0, .int .u64 0]

theorem build63 (s : ByteArray) (x1 x2 x3 : Int) (r4 r5 r6 r7 r8 r9 r10 r11 r12 r13 r14 r15 r16 r17 r18 r19 : Value) (V gh J n c : Nat) (vo : Option Addr) (vl vc : Nat) (w : World) :
    (Instr.build 63 #[(0, .agg (pcs s x1 x2 x3 [r4, r5, r6, r7, r8, r9, r10, r11, r12, r13, r14, r15, r16, r17, r18, r19]).toArray), (1, .slice (some ⟨V, 0, none⟩) n n), (5, .agg #[.int .u64 0, .slice (some ⟨gh, 0, none⟩) c c, .int .u64 0, .int .u64 0, .slice vo vl vc]), (6, .slice (some ⟨J, 0, none⟩) 1 1)]).run Yba.prog w =
      .ok (.agg (scs (pcs s x1 x2 x3 [r4, r5, r6, r7, r8, r9, r10, r11, r12, r13, r14, r15, r16, r17, r18, r19]) (.slice (some ⟨V, 0, none⟩) n n) (.slice (some ⟨gh, 0, none⟩) c c) (.slice vo vl vc) (.slice (some ⟨J, 0, none⟩) 1 1)).toArray) w := by kernel_rfl

/-- What the literal of Genesis has made: the state, its rows. -/
structure GMid (N : Nat) (P : List Value) (c n : Nat) (w w' : World) (p : Value) (St V J gh : Nat) (vs : Value) : Prop where
  gp : p = .pointer (some ⟨St, 0, none⟩)
  gst : w'.heap[St]? = some (.cells (scs P (.slice (some ⟨V, 0, none⟩) n n) (.slice (some ⟨gh, 0, none⟩) c c) vs (.slice (some ⟨J, 0, none⟩) 1 1)).toArray 63 (0, 0))
  gbox : w'.heap[N]? = some (.cells P.toArray 53 (0, 0))
  gv : w'.heap[V]? = some (.cells (madeCells #[.int .u64 0, .int .u64 0, .bool false, .int .u64 0, .int .u64 0, .int .u64 0, .int .u64 0] (n * 7)) 65 (0, 0))
  gj : w'.heap[J]? = some (.cells #[.int .u64 0] 22 (0, 0))
  ghd : w'.heap[gh]? = some (.cells (zrow c).toArray 22 (0, 0))
  gvs : VS w' N vs n
  nv : N < V ∧ N < St ∧ N < J ∧ N < gh
  gb : Below N w w'


theorem VS.form {w' : World} {B n : Nat} {vs : Value} (h : VS w' B vs n) : ∃ vo vl vc, vs = .slice vo vl vc := by
  rcases h with ⟨_, h⟩ | ⟨gv, cap, _, h, _⟩
  · exact ⟨_, _, _, h⟩
  · exact ⟨_, _, _, h⟩
theorem blk_up {w w' : World} {b : Nat} {o : Obj} (h : w.heap[b]? = some o) (hb : Below w.heap.size w w') : w'.heap[b]? = some o := by
  rw [hb.block _ (lt_of_block h)]; exact h
theorem VS.up {w w' : World} {B n : Nat} {vs : Value} (h : VS w B vs n) (hb : Below w.heap.size w w') : VS w' B vs n := by
  rcases h with h | ⟨gv, cap, row, h1, h2, h3, h4⟩
  · exact Or.inl h
  · exact Or.inr ⟨gv, cap, row, h1, h2, blk_up h3 hb, h4⟩
theorem VS.low {w : World} {B B' n : Nat} {vs : Value} (h : VS w B vs n) (hB : B' ≤ B) : VS w B' vs n := by
  rcases h with h | ⟨gv, cap, row, h1, h2, h3, h4⟩
  · exact Or.inl h
  · exact Or.inr ⟨gv, cap, row, h1, by omega, h3, h4⟩

/-- The box of the state as one step of a region. -/
theorem step_box {ops : Array Oper} {o : Oper} {a : Act} {w : World} {K : Act → World → Prop} {Q : Exit → Act → World → Prop} {E : Prop} (hgd : o.guard = none) (x : Operand) (hop : o.op = Op.box 63 x) (cs : List Value) (hx : a.eval x = .agg cs.toArray)
    (h : ∀ w', w'.heap[w.heap.size]? = some (.cells cs.toArray 63 (0, 0)) → Below w.heap.size w w' → K (a.put o.dst (.pointer (some ⟨w.heap.size, 0, none⟩))) w') :
    if Region.wanted o (yielded ops a.tmps) = true then Oper.wp Yba.prog o a w K Q else E := by
  have hw : Region.wanted o (yielded ops a.tmps) = true := by simp [Region.wanted, hgd]
  rw [if_pos hw]
  have h' := h _ (heap_alloc_last w _) ((Below.refl _ _).alloc (Nat.le_refl _) _)
  clear h
  unfold Oper.wp
  simp only [execOp, hop, hx]
  simp [Instr.box, newVar, Value.cells, Result.andThen]
  exact h'

theorem yields_build {ops : Array Oper} {S : World → Prop} {op : Oper} {a : Act} (hw : Region.wanted op (yielded ops a.tmps) = true) (ho : op.op = .build 63 #[(0, .tmp 9), (1, .tmp 12), (5, .tmp 17), (6, .tmp 18)])
    (s : ByteArray) (x1 x2 x3 : Int) (r4 r5 r6 r7 r8 r9 r10 r11 r12 r13 r14 r15 r16 r17 r18 r19 : Value) (V gh J n c : Nat) (vo : Option Addr) (vl vc : Nat)
    (h9 : a.eval (.tmp 9) = .agg (pcs s x1 x2 x3 [r4, r5, r6, r7, r8, r9, r10, r11, r12, r13, r14, r15, r16, r17, r18, r19]).toArray) (h12 : a.eval (.tmp 12) = .slice (some ⟨V, 0, none⟩) n n)
    (h17 : a.eval (.tmp 17) = .agg #[.int .u64 0, .slice (some ⟨gh, 0, none⟩) c c, .int .u64 0, .int .u64 0, .slice vo vl vc]) (h18 : a.eval (.tmp 18) = .slice (some ⟨J, 0, none⟩) 1 1) :
    YieldsIf Yba.prog ops S op (.agg (scs (pcs s x1 x2 x3 [r4, r5, r6, r7, r8, r9, r10, r11, r12, r13, r14, r15, r16, r17, r18, r19]) (.slice (some ⟨V, 0, none⟩) n n) (.slice (some ⟨gh, 0, none⟩) c c) (.slice vo vl vc) (.slice (some ⟨J, 0, none⟩) 1 1)).toArray) a :=
  .inl ⟨hw, fun w _ => by
    unfold execOp
    simp only [ho, List.map_toArray, List.map_cons, List.map_nil, h9, h12, h17, h18, Sem.run_bind, build63, Result.andThen_ok, Sem.run_pure]⟩

/-- The loop of Genesis: all blocks but the validators' row are as they were; the first k validators are laid. -/
structure GL (N V n : Nat) (wc w : World) (f : Nat → List Value) (k : Nat) (wr : World) : Prop where
  kKeep : ∀ b, b < wc.heap.size → b ≠ V → wr.heap[b]? = wc.heap[b]?
  kSize : wc.heap.size ≤ wr.heap.size
  kThere : wr.there V 0 (n * 7)
  kDone : ∀ j, j < k → wr.rangeAt V (j * 7) (f j)
  kBel : Below N w wr

theorem GL.grow {N V n : Nat} {wc w : World} {f : Nat → List Value} {k : Nat} {wr w1 : World} (h : GL N V n wc w f k wr) (hb : Below wr.heap.size wr w1) (hV : V < wc.heap.size) (hN : N ≤ wr.heap.size) : GL N V n wc w f k w1 := by
  have hs := h.kSize
  refine ⟨fun b h1 h2 => (hb.block b (by omega)).trans (h.kKeep b h1 h2), by have := hb.size; omega, fun j hj => ?_, fun j hj i v hv => ?_, h.kBel.trans (hb.mono hN)⟩
  · rw [hb.cell (by show V < _; omega), hb.frozen (by show V < _; omega)]; exact h.kThere j hj
  · rw [hb.cell (by show V < _; omega)]; exact h.kDone j hj i v hv
theorem GL.cellsIn {N V n : Nat} {wc w : World} {f : Nat → List Value} {k : Nat} {w1 : World} (h : GL N V n wc w f k w1) (hN : N ≤ V) (hk : k < n) (hf : ∀ j, (f j).length = 7) : GL N V n wc w f (k + 1) (w1.setCells V (k * 7) (f k)) := by
  have ht : w1.there V (k * 7) (f k).length := fun j hj => by
    rw [hf k] at hj
    have := h.kThere (k * 7 + j) (by omega)
    simpa using this
  refine ⟨fun b h1 h2 => ?_, by rw [size_setCells]; exact h.kSize, fun j hj => ?_, fun j hj => ?_, below_setCells V hN _ _ _ h.kBel⟩
  · rw [block_setCells h2]; exact h.kKeep b h1 h2
  · have := World.there_setCells h.kThere V (k * 7) (f k)
    exact this j hj
  · by_cases e : j = k
    · subst e
      exact World.rangeAt_setCells_same _ _ _ _ ht
    · refine World.rangeAt_setCells_apart (h.kDone j (by omega)) _ _ _ ?_
      right
      left
      rw [hf j]
      omega

theorem mid_apart {N : Nat} {P : List Value} {c n : Nat} {w w' : World} {p : Value} {St V J gh : Nat} {vs : Value} (h : GMid N P c n w w' p St V J gh vs) : V ≠ St ∧ V ≠ J ∧ V ≠ gh ∧ ∀ gv cap, vs = .slice (some ⟨gv, 0, none⟩) n cap → 0 < n → V ≠ gv := by
  refine ⟨fun e => ?_, fun e => ?_, fun e => ?_, fun gv cap hv hn e => ?_⟩
  · have h1 := h.gv; rw [e, h.gst] at h1; simp at h1
  · have h1 := h.gv; rw [e, h.gj] at h1; simp at h1
  · have h1 := h.gv; rw [e, h.ghd] at h1; simp at h1
  · rcases h.gvs with ⟨h0, _⟩ | ⟨gv', cap', row, hv', _, hr, _⟩
    · omega
    · rw [hv] at hv'
      simp only [Value.slice.injEq, Option.some.injEq, Addr.mk.injEq, and_true, true_and] at hv'
      obtain ⟨rfl, rfl⟩ := hv'
      have h1 := h.gv; rw [e, hr] at h1; simp at h1

theorem mid_start {P : List Value} {c n : Nat} {w w' : World} {p : Value} {St V J gh : Nat} {vs : Value} {f : Nat → List Value} (h : GMid w.heap.size P c n w w' p St V J gh vs) : GL w.heap.size V n w' w f 0 w' :=
  ⟨fun _ _ _ => rfl, Nat.le_refl _, there_block h.gv (size_madeCells _ _), fun _ h => absurd h (Nat.not_lt_zero _), h.gb⟩

theorem gl_cell {N V n : Nat} {wc w : World} {f : Nat → List Value} {k : Nat} {w1 : World} (h : GL N V n wc w f k w1) (hk : k < n) (j : Nat) (hj : j < 7) : (∃ u, w1.cell? ⟨V, k * 7 + j, none⟩ = some u) ∧ w1.frozen? ⟨V, k * 7 + j, none⟩ = false := by
  have ht := h.kThere (k * 7 + j) (by omega)
  rw [Nat.zero_add] at ht
  exact ⟨Option.isSome_iff_exists.1 ht.1, ht.2⟩

end Go.Proofs.Ybulkanzs
