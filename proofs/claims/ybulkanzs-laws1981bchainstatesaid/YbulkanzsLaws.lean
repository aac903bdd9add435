/-
  Laws of no program: a whole struct into the block that was made last, for the walk.
-/
import Derived.WalkKit
import Derived.WalkSpells
import Derived.WalkLawsBesides
import Derived.Deep.MidRow
import Derived.Deep.WholeRow
import Derived.Laws.CopyOwn
namespace Go.Proofs.YbulkanzsLaws
open Go Go.RowKit

/-- A whole struct into the block that was made last. -/
theorem wpList_store_last {P : Program} {ops : Array Oper} {rest : List Oper} {op : Oper} {a : Act} {w0 : World} {Q : Exit → Act → World → Prop} (hgd : op.guard = none) (ty : TypeId) (x y : Operand) (ho : op.op = .store ty x y)
    (w : World) (n : Nat) (c c' : Array Value) (hw : w0 = w.alloc (.cells c ty)) (hx : a.eval x = .pointer (some ⟨n, 0, none⟩)) (hy : a.eval y = .agg c') (hn : n = w.heap.size)
    (hi : (P.info? ty).map (·.size) = some c'.size) (hs : c.size = c'.size) (h1 : c'.all (·.oneCell') = true)
    (h : wpList P ops Q rest (a.put op.dst undef) (w.alloc (.cells c' ty))) : wpList P ops Q (op :: rest) a w0 := by
  subst hn
  subst hw
  refine wpList_plain hgd fun _ hK => ?_
  unfold Oper.wp execOp
  simp only [ho, hx, hy, Instr.storeAt, Instr.sureAddr, Sem.run_bind, Sem.run_pure, Result.andThen_ok, run_storeVar_new w ty c c' hi hs h1]
  exact hK _ _ h

/-- A whole struct out of a block whose cells are known. -/
theorem wpList_load_at {P : Program} {ops : Array Oper} {rest : List Oper} {op : Oper} {a : Act} {w : World} {Q : Exit → Act → World → Prop} (hgd : op.guard = none) (ty : TypeId) (x : Operand) (ho : op.op = .load ty x)
    (b : Nat) (cs : List Value) (d : TypeDesc) (hx : a.eval x = .pointer (some ⟨b, 0, none⟩)) (hc : ∀ j, w.cell? ⟨b, j, none⟩ = cs[j]?)
    (hu : P.underlying ty = some d) (hd : d.isRow = true) (hi : (P.info? ty).map (·.size) = some cs.length)
    (h : wpList P ops Q rest (a.put op.dst (.agg cs.toArray)) w) : wpList P ops Q (op :: rest) a w :=
  wpList_load_mid hgd ty x ho b 0 hx cs d (fun j v hv => by rw [Nat.zero_add, hc j]; exact hv) hu hd hi h

theorem setRow_alloc_second (w : World) (c c' : Array Value) (t : TypeId) (o : Obj) : ((w.alloc (.cells c t)).alloc o).setRow w.heap.size c' = (w.alloc (.cells c' t)).alloc o := by
  simp only [World.setRow, World.alloc]
  congr 1
  apply Array.ext_getElem?
  intro i
  rw [Array.getElem?_modify]
  by_cases h : w.heap.size = i
  · subst h
    simp [Array.getElem?_push]
  · have h' : ¬ i = w.heap.size := fun e => h e.symm
    simp [h, h', Array.getElem?_push]

theorem heap_alloc_second (w : World) (o o' : Obj) : ((w.alloc o).alloc o').heap[w.heap.size]? = some o := by
  show ((w.heap.push o).push o')[w.heap.size]? = some o
  simp [Array.getElem?_push]

/-- A whole struct into the block that was made last but one. -/
theorem wpList_store_second {P : Program} {ops : Array Oper} {rest : List Oper} {op : Oper} {a : Act} {w0 : World} {Q : Exit → Act → World → Prop} (hgd : op.guard = none) (ty : TypeId) (x y : Operand) (ho : op.op = .store ty x y)
    (w : World) (o : Obj) (n : Nat) (c c' : Array Value) (hw : w0 = (w.alloc (.cells c ty)).alloc o) (hx : a.eval x = .pointer (some ⟨n, 0, none⟩)) (hy : a.eval y = .agg c') (hn : n = w.heap.size)
    (hi : (P.info? ty).map (·.size) = some c'.size) (hs : c.size = c'.size) (h1 : c'.all (·.oneCell') = true)
    (h : wpList P ops Q rest (a.put op.dst undef) ((w.alloc (.cells c' ty)).alloc o)) : wpList P ops Q (op :: rest) a w0 := by
  subst hn
  subst hw
  refine wpList_plain hgd fun _ hK => ?_
  have hr := run_storeVar_row (P := P) ((w.alloc (.cells c ty)).alloc o) w.heap.size ty ty c c' (heap_alloc_second w _ _) hi hs h1
  rw [setRow_alloc_second] at hr
  unfold Oper.wp execOp
  simp only [ho, hx, hy, Instr.storeAt, Instr.sureAddr, Sem.run_bind, Sem.run_pure, Result.andThen_ok, hr]
  exact hK _ _ h

/-- A struct result that lies in a block whose cells are known. -/
theorem bodyPost_struct {P : Program} {fn : Func} {R : Ending → World → Prop} {a : Act} {w : World} {p : Tmp} {ty : TypeId} (h : fn.results = #[.cell p ty]) (b : Nat) (cs : List Value) (d : TypeDesc)
    (hp : a.tmps.getD p undef = .pointer (some ⟨b, 0, none⟩)) (hc : ∀ j, w.cell? ⟨b, j, none⟩ = cs[j]?)
    (hu : P.underlying ty = some d) (hdr : d.isRow = true) (hi : (P.info? ty).map (·.size) = some cs.length) (hd : a.defers = [])
    (hR : R (.returned (.agg cs.toArray)) w) : bodyPost P fn R .ret a w := by
  refine bodyPost_ret (v := .agg cs.toArray) ?_ hd hR
  have hl := run_loadVar_mid (P := P) w b 0 ty cs d (fun j v hv => by rw [Nat.zero_add, hc j]; exact hv) hu hdr hi
  simp only [results, h]
  have hp' : a.tmps[p]?.getD undef = .pointer (some ⟨b, 0, none⟩) := by simpa using hp
  simp [hp', asAddr, hl]

/-- A struct result, its cells as a range. -/
theorem bodyPost_range {P : Program} {fn : Func} {R : Ending → World → Prop} {a : Act} {w : World} {p : Tmp} {ty : TypeId} (h : fn.results = #[.cell p ty]) (b : Nat) (cs : List Value) (d : TypeDesc)
    (hp : a.tmps.getD p undef = .pointer (some ⟨b, 0, none⟩)) (hc : w.rangeAt b 0 cs)
    (hu : P.underlying ty = some d) (hdr : d.isRow = true) (hi : (P.info? ty).map (·.size) = some cs.length) (hd : a.defers = [])
    (hR : R (.returned (.agg cs.toArray)) w) : bodyPost P fn R .ret a w := by
  refine bodyPost_ret (v := .agg cs.toArray) ?_ hd hR
  have hl := run_loadVar_mid (P := P) w b 0 ty cs d hc hu hdr hi
  simp only [results, h]
  have hp' : a.tmps[p]?.getD undef = .pointer (some ⟨b, 0, none⟩) := by simpa using hp
  simp [hp', asAddr, hl]

/-- Old cells and marks behind a callee that makes memory alone. -/
theorem bcell {W w1 : World} {B : Nat} (hb : Below B W w1) : (∀ b o, b < B → w1.cell? ⟨b, o, none⟩ = W.cell? ⟨b, o, none⟩) ∧ (∀ b o, b < B → w1.frozen? ⟨b, o, none⟩ = W.frozen? ⟨b, o, none⟩) :=
  ⟨fun b o h => hb.cell (p := ⟨b, o, none⟩) h, fun b o h => hb.frozen (p := ⟨b, o, none⟩) h⟩

/-- Stores into a row at or above B turn nothing below B. -/
theorem below_setCells {B : Nat} {a : World} (b : Nat) (hb : B ≤ b) : ∀ (vs : List Value) (o : Nat) (w : World), Below B a w → Below B a (w.setCells b o vs)
  | [], _, _, h => h
  | v :: r, o, w, h => by
    rw [World.setCells]
    exact below_setCells b hb r (o + 1) _ (h.setCell (p := ⟨b, o, none⟩) hb v)

theorem size_setCells (b : Nat) : ∀ (vs : List Value) (o : Nat) (w : World), (w.setCells b o vs).heap.size = w.heap.size
  | [], _, _ => rfl
  | v :: r, o, w => by rw [World.setCells, size_setCells b r]; simp

/-- A block that is known whole: its cells are there, may be written, and read as they stand. -/
theorem there_block {w : World} {b : Nat} {c : Array Value} {t : TypeId} (h : w.heap[b]? = some (.cells c t (0, 0))) {n : Nat} (hn : c.size = n) : w.there b 0 n := fun j hj => by
  subst hn
  constructor
  · simp [World.cell?, h, hj]
  · simp [World.frozen?, h]
theorem cells_block {w : World} {b : Nat} {c : Array Value} {t : TypeId} (h : w.heap[b]? = some (.cells c t (0, 0))) (j : Nat) : w.cell? ⟨b, j, none⟩ = c[j]? := by
  simp [World.cell?, h]
theorem free_block {w : World} {b : Nat} {c : Array Value} {t : TypeId} (h : w.heap[b]? = some (.cells c t (0, 0))) (j : Nat) : w.frozen? ⟨b, j, none⟩ = false := by
  simp [World.frozen?, h]
theorem range_block {w : World} {b : Nat} {cs : List Value} {t : TypeId} (h : w.heap[b]? = some (.cells cs.toArray t (0, 0))) : w.rangeAt b 0 cs := fun j v hv => by
  rw [Nat.zero_add, cells_block h]; simpa using hv

/-- The block that was made last ahead of a callee, behind it. -/
theorem blk_last {W w1 : World} {o : Obj} {B n : Nat} (hb : Below B (W.alloc o) w1) (hB : n < B) (hn : n = W.heap.size) : w1.heap[n]? = some o := by
  subst hn
  rw [hb.block _ hB]
  exact heap_alloc_last W o
theorem blk_second {W w1 : World} {o o' : Obj} {B n : Nat} (hb : Below B ((W.alloc o).alloc o') w1) (hB : n < B) (hn : n = W.heap.size) : w1.heap[n]? = some o := by
  subst hn
  rw [hb.block _ hB]
  exact heap_alloc_second W o o'

/-- A row of n zeros. -/
def zrow (n : Nat) : List Value := List.replicate n (.int .u64 0)
theorem zrow_len (n : Nat) : (zrow n).length = n := by simp [zrow]
theorem zrow_get {n j : Nat} (h : j < n) : (zrow n)[j]? = some (.int .u64 0) := by simp [zrow, h]
theorem zrow_one (n : Nat) : ∀ v ∈ zrow n, v.oneCell' = true := fun v hv => by
  have := List.eq_of_mem_replicate hv
  subst this
  rfl
theorem made_zrow (n : Nat) : madeCells #[.int .u64 0] n = (zrow n).toArray := by
  apply Array.ext
  · simp [madeCells, zrow]
  · intro i h1 h2
    simp [madeCells, zrow, Nat.mod_one]
theorem splice_zrow (c o m : Nat) (h : o + m ≤ c) : splice (zrow c) o (zrow m) = zrow c := by
  unfold splice zrow
  rw [List.take_replicate, List.drop_replicate, List.replicate_append_replicate, List.replicate_append_replicate]
  simp only [List.length_replicate]
  congr 1
  omega

/-- 'make([]T, n)': the block written out. -/
theorem wpList_make_block {P : Program} {w : World} {ops : Array Oper} {rest : List Oper} {o : Oper} {a : Act} {Q : Exit → Act → World → Prop}
    (hg : o.guard = none) (l c : Operand) (t : TypeId) (hop : o.op = Op.makeSlice t l c)
    (e : TypeId) (i : TypeInfo) (z : Value) (size : Nat) (h1 : P.underlying t = some (.slice e)) (h2 : P.info? e = some i) (h3 : i.zero = some z) (h4 : i.size = size)
    (kl kc : IntKind) (L C : Int) (n : Nat) (hl : a.eval l = .int kl L) (hc : a.eval c = .int kc C) (hL : L = (n : Int)) (hC : C = (n : Int)) (b2 : i.bytes * n ≤ 281474976710656) (b3 : n ≤ 9223372036854775807)
    (cells : Array Value) (hcells : madeCells z.cells (n * size) = cells)
    (hK : wpList P ops Q rest (a.put o.dst (.slice (some ⟨w.heap.size, 0, none⟩) n n)) (w.alloc (.cells cells e))) :
    wpList P ops Q (o :: rest) a w := by
  refine wpList_plain hg fun K hK' => ?_
  subst hL
  subst hC
  have hb' : (i.bytes : Int) * (n : Int) ≤ 281474976710656 := by
    have h : ((i.bytes * n : Nat) : Int) ≤ 281474976710656 := by omega
    rwa [Int.natCast_mul] at h
  have hr := run_make (P := P) w t e i z h1 h2 h3 kl kc n n (by omega) (Int.le_refl _) hb' (by omega)
  simp only [Int.toNat_natCast, h4, hcells] at hr
  unfold Oper.wp
  simp [execOp, hop, hl, hc, hr, Result.andThen]
  exact hK' _ _ hK

theorem undrew {B : Nat} {W w1 : World} (h : Below B W.drew w1) : Below B W w1 := ⟨h.os, h.tape, h.output, h.size, h.block⟩

theorem range_alloc {w : World} {b o : Nat} {cs : List Value} (h : w.rangeAt b o cs) (hb : b < w.heap.size) (ob : Obj) : (w.alloc ob).rangeAt b o cs := fun j v hv => by
  rw [World.cell?_alloc_past (hn := hb)]; exact h j v hv
theorem block_alloc {w : World} {b : Nat} {o : Obj} (h : w.heap[b]? = some o) (ob : Obj) : (w.alloc ob).heap[b]? = some o := by
  rw [Below.heap_alloc w ob b (lt_of_block h)]; exact h
theorem block_setCells {b g : Nat} (hne : g ≠ b) : ∀ (vs : List Value) (o : Nat) (w : World), (w.setCells b o vs).heap[g]? = w.heap[g]?
  | [], _, _ => rfl
  | v :: r, o, w => by
    rw [World.setCells, block_setCells hne r (o + 1)]
    exact Below.heap_setCell w ⟨b, o, none⟩ v g hne

theorem range_drew {w : World} {b o : Nat} {cs : List Value} (h : w.rangeAt b o cs) : w.drew.rangeAt b o cs := fun j v hv => h j v hv
theorem block_drew {w : World} {b : Nat} {o : Obj} (h : w.heap[b]? = some o) : w.drew.heap[b]? = some o := h

end Go.Proofs.YbulkanzsLaws
