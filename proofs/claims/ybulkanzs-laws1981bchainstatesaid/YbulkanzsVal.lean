/-
  LawS1981BValidators: the walk.
-/
import Derived.Test.YbulkanzsGen
import Derived.Test.YbulkanzsSame
import Derived.Deep.RegionHeld3
namespace Go.Proofs.Ybulkanzs
open Go.RowKit YbulkanzsLaws
set_option linter.unusedSimpArgs false
set_option linter.unusedVariables false

theorem preset_all (s : ByteArray) (x1 x2 x3 : Int) (r : List Value) (hr : r.length = 16) (h1 : ∀ v ∈ r, v.oneCell' = true) (w : World) (b1 : 0 ≤ x1) (b3 : 0 ≤ x3) (c : Nat) (hc : x1 % 65 = c) (y3 : Int) (hy : y3 = if x3 = 0 then 1 else x3) :
    Calls Yba.prog 12 #[.agg (pcs s x1 x2 x3 r).toArray] w fun e w' => e = .returned (.agg (pcs s (c : Int) x2 y3 r).toArray) ∧ Below w.heap.size w w' := by
  rw [← hc]
  by_cases h : x3 = 0
  · subst h
    simp only [if_true] at hy
    subst hy
    exact preset_zero s x1 x2 r hr h1 w b1
  · rw [if_neg h] at hy
    rw [hy]
    exact preset_pos s x1 x2 x3 r hr h1 w b1 (by omega)

theorem ones (l : List Int) : ∀ v ∈ l.map (Value.int .u64), v.oneCell' = true := fun v hv => by
  obtain ⟨x, _, rfl⟩ := List.mem_map.1 hv
  rfl

set_option maxHeartbeats 400000 in
theorem val_big (q : Value) (ao : Option Addr) (n cap : Nat) (cs : Array Value) (hq : q = .agg cs) (w : World) (hl : 1024 < n) (hm : n ≤ 9223372036854775807) :
    Calls Yba.prog 4 #[q, .slice ao n cap] w fun e w' => e = .returned (.bool true) ∧ Below w.heap.size w w' := by
  subst hq
  go_enter Yba.func4, Yba.ntmps4
  go_wp2
  go_ret
  exact ⟨rfl, (Below.refl _ _).alloc (Nat.le_refl _) _⟩

theorem hao_up {ao : Option Addr} {n : Nat} {zs : List Int} {w w1 : World} {o1 : Obj} (hao : 0 < n → ∃ b off, ao = some ⟨b, off, none⟩ ∧ b < w.heap.size ∧ ∀ j, j < n → w.cell? ⟨b, off + j, none⟩ = some (.int .u64 (zs.getD j 0)))
    (hb : Below (w.alloc o1).heap.size (w.alloc o1) w1) (o : Obj) : 0 < n → ∃ b off, ao = some ⟨b, off, none⟩ ∧ b < (w1.alloc o).heap.size ∧ ∀ j, j < n → (w1.alloc o).cell? ⟨b, off + j, none⟩ = some (.int .u64 (zs.getD j 0)) := by
  intro h
  obtain ⟨b, off, rfl, hlt, hc⟩ := hao h
  have hs := hb.size
  simp only [World.size_alloc] at hs
  refine ⟨b, off, rfl, by simp only [World.size_alloc]; omega, fun j hj => ?_⟩
  rw [World.cell?_alloc_past (hn := by omega), hb.cell (by show b < _; simp only [World.size_alloc]; omega), World.cell?_alloc_past (hn := hlt)]
  exact hc j hj

theorem range_pre {w : World} {b : Nat} {P X : List Value} {t : TypeId} (h : w.heap[b]? = some (.cells (P ++ X).toArray t (0, 0))) : w.rangeAt b 0 P := fun j v hv => by
  rw [Nat.zero_add, cells_block h]
  have hj := (List.getElem?_eq_some_iff.1 hv).1
  simp only [List.getElem?_toArray]
  rw [List.getElem?_append_left hj]
  exact hv

theorem yields_neq {ops : Array Oper} {S : World → Prop} {op : Oper} {a : Act} (hw : Region.wanted op (yielded ops a.tmps) = true) (x y : Operand) (ty : TypeId) (ho : op.op = .binOp .neq 53 x y ty)
    (s : ByteArray) (x1 x2 x3 : Int) (y4 y5 y6 y7 y8 y9 y10 y11 y12 y13 y14 y15 y16 y17 y18 y19 : Int) (hx : a.eval x = .agg (pcs s x1 x2 x3 [.int .u64 y4, .int .u64 y5, .int .u64 y6, .int .u64 y7, .int .u64 y8, .int .u64 y9, .int .u64 y10, .int .u64 y11, .int .u64 y12, .int .u64 y13, .int .u64 y14, .int .u64 y15, .int .u64 y16, .int .u64 y17, .int .u64 y18, .int .u64 y19]).toArray) (hy : a.eval y = .agg (pcs s x1 x2 x3 [.int .u64 y4, .int .u64 y5, .int .u64 y6, .int .u64 y7, .int .u64 y8, .int .u64 y9, .int .u64 y10, .int .u64 y11, .int .u64 y12, .int .u64 y13, .int .u64 y14, .int .u64 y15, .int .u64 y16, .int .u64 y17, .int .u64 y18, .int .u64 y19]).toArray) :
    YieldsIf Yba.prog ops S op (.bool false) a :=
  .inl ⟨hw, fun w _ => by
    unfold execOp
    have hg := run_eqGuard_agg (P := Yba.prog) w .neq 53 x y (pcs s x1 x2 x3 [.int .u64 y4, .int .u64 y5, .int .u64 y6, .int .u64 y7, .int .u64 y8, .int .u64 y9, .int .u64 y10, .int .u64 y11, .int .u64 y12, .int .u64 y13, .int .u64 y14, .int .u64 y15, .int .u64 y16, .int .u64 y17, .int .u64 y18, .int .u64 y19]).toArray (pcs s x1 x2 x3 [.int .u64 y4, .int .u64 y5, .int .u64 y6, .int .u64 y7, .int .u64 y8, .int .u64 y9, .int .u64 y10, .int .u64 y11, .int .u64 y12, .int .u64 y13, .int .u64 y14, .int .u64 y15, .int .u64 y16, .int .u64 y17, .int .u64 y18, .int .u64 y19]).toArray (by kernel_rfl)
    simp only [ho, hx, hy, Sem.run_bind, hg, neq53, Result.andThen_ok, Sem.run_pure]⟩

theorem div_mul {b y : Int} (c2 : 0 < y) : b / y * y = b - b % y := by
  have h := Int.emod_add_mul_ediv b y
  rw [Int.mul_comm] at h
  omega
theorem wrap_mul {b y : Int} (c1 : 0 ≤ b) (c2 : 0 < y) (c3 : b ≤ 18446744073709551615) : IntKind.u64.wrap (b / y * y) = b / y * y := by
  rw [div_mul c2]
  exact wrap_sub c1 c2 c3
theorem eff_over {b y x : Int} (c1 : 0 ≤ b) (c2 : 0 < y) (h : x < b / y * y) : effB b y x = x := by
  rw [div_mul c2] at h
  unfold effB
  rw [if_neg (by omega)]
theorem eff_under {b y x : Int} (c1 : 0 ≤ b) (c2 : 0 < y) (h : ¬ x < b / y * y) : effB b y x = b / y * y := by
  rw [div_mul c2] at h ⊢
  unfold effB
  rw [if_pos (by omega)]
theorem base_up {w w1 w2 : World} {o o1 : Obj} (hb : Below (w.alloc o1).heap.size (w.alloc o1) w1) (hb2 : Below (w1.alloc o).heap.size (w1.alloc o) w2) : Below w.heap.size w w2 := by
  have hs := hb.size
  simp only [World.size_alloc] at hs
  exact (((Below.refl _ _).alloc (Nat.le_refl _) _).trans (hb.mono (by simp only [World.size_alloc]; omega))).trans (((Below.refl _ _).alloc (by omega) o).trans (hb2.mono (by simp only [World.size_alloc]; omega)))

set_option maxHeartbeats 1000000 in
set_option maxRecDepth 20000 in
theorem val_small (s : ByteArray) (x1 x2 x3 : Int) (y4 y5 y6 y7 y8 y9 y10 y11 y12 y13 y14 y15 y16 y17 y18 y19 : Int) (zs : List Int) (n : Nat) (hn : n ≤ 1024) (ao : Option Addr) (cap : Nat) (w : World) (b1 : 0 ≤ x1) (b3 : 0 ≤ x3) (b4 : x3 ≤ 18446744073709551615)
    (hao : 0 < n → ∃ b off, ao = some ⟨b, off, none⟩ ∧ b < w.heap.size ∧ ∀ j, j < n → w.cell? ⟨b, off + j, none⟩ = some (.int .u64 (zs.getD j 0)))
    (hz : ∀ j, 0 ≤ zs.getD j 0 ∧ zs.getD j 0 ≤ 18446744073709551615) :
    Calls Yba.prog 4 #[.agg (pcs s x1 x2 x3 [.int .u64 y4, .int .u64 y5, .int .u64 y6, .int .u64 y7, .int .u64 y8, .int .u64 y9, .int .u64 y10, .int .u64 y11, .int .u64 y12, .int .u64 y13, .int .u64 y14, .int .u64 y15, .int .u64 y16, .int .u64 y17, .int .u64 y18, .int .u64 y19]).toArray, .slice ao n cap] w fun e w' => e = .returned (.bool true) ∧ Below w.heap.size w w' := by
  obtain ⟨c, hc⟩ : ∃ c : Nat, x1 % 65 = c := ⟨(x1 % 65).toNat, by omega⟩
  have hc64 : c ≤ 64 := by omega
  obtain ⟨y3, hy3⟩ : ∃ y3, y3 = if x3 = 0 then 1 else x3 := ⟨_, rfl⟩
  have hy3p : 0 < y3 := by rw [hy3]; split <;> omega
  have hy3m : y3 ≤ 18446744073709551615 := by rw [hy3]; split <;> omega
  have HC : Hid (x1 % 65 = c) := hc
  have HY : Hid (y3 = if x3 = 0 then 1 else x3) := hy3
  have hone : ∀ v ∈ ([.int .u64 y4, .int .u64 y5, .int .u64 y6, .int .u64 y7, .int .u64 y8, .int .u64 y9, .int .u64 y10, .int .u64 y11, .int .u64 y12, .int .u64 y13, .int .u64 y14, .int .u64 y15, .int .u64 y16, .int .u64 y17, .int .u64 y18, .int .u64 y19] : List Value), v.oneCell' = true := ones [y4, y5, y6, y7, y8, y9, y10, y11, y12, y13, y14, y15, y16, y17, y18, y19]
  have HO : Hid (∀ v ∈ ([.int .u64 y4, .int .u64 y5, .int .u64 y6, .int .u64 y7, .int .u64 y8, .int .u64 y9, .int .u64 y10, .int .u64 y11, .int .u64 y12, .int .u64 y13, .int .u64 y14, .int .u64 y15, .int .u64 y16, .int .u64 y17, .int .u64 y18, .int .u64 y19] : List Value), v.oneCell' = true) := hone
  clear hc hy3 hone
  go_enter Yba.func4, Yba.ntmps4
  go_wp2_with (first
    | (refine wpList_load_at rfl 53 (.tmp 2) rfl w.heap.size (pcs s x1 x2 x3 [.int .u64 y4, .int .u64 y5, .int .u64 y6, .int .u64 y7, .int .u64 y8, .int .u64 y9, .int .u64 y10, .int .u64 y11, .int .u64 y12, .int .u64 y13, .int .u64 y14, .int .u64 y15, .int .u64 y16, .int .u64 y17, .int .u64 y18, .int .u64 y19]) _ rfl (fun j => by go_simp) Yba.underlying53 rfl Yba.size53 ?_)
    | (go_at_call 12; refine (preset_all s x1 x2 x3 [.int .u64 y4, .int .u64 y5, .int .u64 y6, .int .u64 y7, .int .u64 y8, .int .u64 y9, .int .u64 y10, .int .u64 y11, .int .u64 y12, .int .u64 y13, .int .u64 y14, .int .u64 y15, .int .u64 y16, .int .u64 y17, .int .u64 y18, .int .u64 y19] rfl HO.out _ b1 b3 c HC.out y3 HY.out).mono ?_; rintro e w1 ⟨rfl, hb1⟩)
    | (refine wpList_store_last rfl 53 (.tmp 5) (.tmp 16) rfl _ _ _ (pcs s c x2 y3 [.int .u64 y4, .int .u64 y5, .int .u64 y6, .int .u64 y7, .int .u64 y8, .int .u64 y9, .int .u64 y10, .int .u64 y11, .int .u64 y12, .int .u64 y13, .int .u64 y14, .int .u64 y15, .int .u64 y16, .int .u64 y17, .int .u64 y18, .int .u64 y19]).toArray rfl rfl rfl rfl Yba.size53 rfl (pcs_one _ _ _ _ HO.out) ?_)
    | (refine wpList_load_at rfl 53 (.tmp 5) rfl w1.heap.size (pcs s c x2 y3 [.int .u64 y4, .int .u64 y5, .int .u64 y6, .int .u64 y7, .int .u64 y8, .int .u64 y9, .int .u64 y10, .int .u64 y11, .int .u64 y12, .int .u64 y13, .int .u64 y14, .int .u64 y15, .int .u64 y16, .int .u64 y17, .int .u64 y18, .int .u64 y19]) _ rfl (fun j => by go_simp) Yba.underlying53 rfl Yba.size53 ?_)
    | (go_at_call 13; refine (gen_all s c x2 y3 (.int .u64 y4) (.int .u64 y5) (.int .u64 y6) (.int .u64 y7) (.int .u64 y8) (.int .u64 y9) (.int .u64 y10) (.int .u64 y11) (.int .u64 y12) (.int .u64 y13) (.int .u64 y14) (.int .u64 y15) (.int .u64 y16) (.int .u64 y17) (.int .u64 y18) (.int .u64 y19) zs n hn hc64 hy3p ao cap _ (hao_up hao hb1 _) hz).mono ?_; rintro e w2 ⟨p, rfl, wc, St, V, J, gh, vs, hg, hn1, hn2, hn3, hn4, hL⟩; have hgp := hg.gp; subst hgp; have hS2 : w2.heap[St]? = _ := (hL.kKeep St (lt_of_block hg.gst) (fun e => hn1 e.symm)).trans hg.gst; have hc20 : w2.cell? ⟨St, 20, none⟩ = some (.slice (some ⟨V, 0, none⟩) n n) := (cells_block hS2 20).trans rfl; have HS2 : Hid (w2.heap[St]? = _) := hS2; have HG : Hid (GMid _ _ _ _ _ _ _ _ _ _ _ _) := hg; have HL : Hid (GL _ _ _ _ _ _ _ _) := hL; clear hS2 hg hL))
  have hq2 : w2.heap[w1.heap.size]? = some (.cells (pcs s c x2 y3 [.int .u64 y4, .int .u64 y5, .int .u64 y6, .int .u64 y7, .int .u64 y8, .int .u64 y9, .int .u64 y10, .int .u64 y11, .int .u64 y12, .int .u64 y13, .int .u64 y14, .int .u64 y15, .int .u64 y16, .int .u64 y17, .int .u64 y18, .int .u64 y19]).toArray 53 (0, 0)) := blk_last HL.out.kBel (by simp) rfl
  have hr1 : w2.rangeAt St 0 (pcs s c x2 y3 [.int .u64 y4, .int .u64 y5, .int .u64 y6, .int .u64 y7, .int .u64 y8, .int .u64 y9, .int .u64 y10, .int .u64 y11, .int .u64 y12, .int .u64 y13, .int .u64 y14, .int .u64 y15, .int .u64 y16, .int .u64 y17, .int .u64 y18, .int .u64 y19]) := range_pre HS2.out
  have hr2 : w2.rangeAt w1.heap.size 0 (pcs s c x2 y3 [.int .u64 y4, .int .u64 y5, .int .u64 y6, .int .u64 y7, .int .u64 y8, .int .u64 y9, .int .u64 y10, .int .u64 y11, .int .u64 y12, .int .u64 y13, .int .u64 y14, .int .u64 y15, .int .u64 y16, .int .u64 y17, .int .u64 y18, .int .u64 y19]) := range_block hq2
  refine wp_region_noPanic ?_
  refine wp_region_held_drew (S := fun w' => w'.rangeAt St 0 (pcs s c x2 y3 [.int .u64 y4, .int .u64 y5, .int .u64 y6, .int .u64 y7, .int .u64 y8, .int .u64 y9, .int .u64 y10, .int .u64 y11, .int .u64 y12, .int .u64 y13, .int .u64 y14, .int .u64 y15, .int .u64 y16, .int .u64 y17, .int .u64 y18, .int .u64 y19]) ∧ w'.rangeAt w1.heap.size 0 (pcs s c x2 y3 [.int .u64 y4, .int .u64 y5, .int .u64 y6, .int .u64 y7, .int .u64 y8, .int .u64 y9, .int .u64 y10, .int .u64 y11, .int .u64 y12, .int .u64 y13, .int .u64 y14, .int .u64 y15, .int .u64 y16, .int .u64 y17, .int .u64 y18, .int .u64 y19])) (by kernel_rfl) ⟨range_drew hr1, range_drew hr2⟩ (fun hHeld => ?_)
  refine wpAnyH_take (i := 0) (v := .pointer (some ⟨St, 0, none⟩)) rfl (by kernel_rfl) (by kernel_rfl) (by kernel_rfl) (fun _ _ _ h => h) (Or.inl ⟨by rfl, fun w' _ => by go_simp⟩) hHeld ?_
  simp only [Act.put, List.getElem_toArray, List.getElem_cons_zero, List.getElem_cons_succ, List.setIfInBounds_toArray, List.set_cons_zero, List.set_cons_succ]
  refine wpAnyH_take (i := 1) (v := .pointer (some ⟨St, 0, none⟩)) rfl (by kernel_rfl) (by kernel_rfl) (by kernel_rfl) (fun _ _ _ h => h) (Or.inl ⟨by rfl, fun w' _ => by go_simp⟩) hHeld ?_
  simp only [Act.put, List.getElem_toArray, List.getElem_cons_zero, List.getElem_cons_succ, List.setIfInBounds_toArray, List.set_cons_zero, List.set_cons_succ]
  refine wpAnyH_take (i := 2) (v := .pointer (some ⟨St, 0, none⟩)) rfl (by kernel_rfl) (by kernel_rfl) (by kernel_rfl) (fun _ _ _ h => h) (Or.inl ⟨by rfl, fun w' _ => by go_simp⟩) hHeld ?_
  simp only [Act.put, List.getElem_toArray, List.getElem_cons_zero, List.getElem_cons_succ, List.setIfInBounds_toArray, List.set_cons_zero, List.set_cons_succ]
  refine wpAnyH_take (i := 3) (v := _) rfl (by kernel_rfl) (by kernel_rfl) (by kernel_rfl) (fun _ _ _ h => h) (yieldsIf_load_mid (by rfl) 53 (.tmp 34) rfl St 0 rfl (pcs s c x2 y3 [.int .u64 y4, .int .u64 y5, .int .u64 y6, .int .u64 y7, .int .u64 y8, .int .u64 y9, .int .u64 y10, .int .u64 y11, .int .u64 y12, .int .u64 y13, .int .u64 y14, .int .u64 y15, .int .u64 y16, .int .u64 y17, .int .u64 y18, .int .u64 y19]) _ (fun w' hw' => hw'.1) Yba.underlying53 rfl Yba.size53) hHeld ?_
  simp only [Act.put, List.getElem_toArray, List.getElem_cons_zero, List.getElem_cons_succ, List.setIfInBounds_toArray, List.set_cons_zero, List.set_cons_succ]
  refine wpAnyH_take (i := 4) (v := _) rfl (by kernel_rfl) (by kernel_rfl) (by kernel_rfl) (fun _ _ _ h => h) (yieldsIf_load_mid (by rfl) 53 (.tmp 5) rfl w1.heap.size 0 rfl (pcs s c x2 y3 [.int .u64 y4, .int .u64 y5, .int .u64 y6, .int .u64 y7, .int .u64 y8, .int .u64 y9, .int .u64 y10, .int .u64 y11, .int .u64 y12, .int .u64 y13, .int .u64 y14, .int .u64 y15, .int .u64 y16, .int .u64 y17, .int .u64 y18, .int .u64 y19]) _ (fun w' hw' => hw'.2) Yba.underlying53 rfl Yba.size53) hHeld ?_
  simp only [Act.put, List.getElem_toArray, List.getElem_cons_zero, List.getElem_cons_succ, List.setIfInBounds_toArray, List.set_cons_zero, List.set_cons_succ]
  refine wpAnyH_take (i := 5) (v := .bool false) rfl (by kernel_rfl) (by kernel_rfl) (by kernel_rfl) (fun _ _ _ h => h) (yields_neq (by rfl) (.tmp 35) (.tmp 36) 53 rfl s c x2 y3 y4 y5 y6 y7 y8 y9 y10 y11 y12 y13 y14 y15 y16 y17 y18 y19 rfl rfl) hHeld ?_
  simp only [Act.put, List.getElem_toArray, List.getElem_cons_zero, List.getElem_cons_succ, List.setIfInBounds_toArray, List.set_cons_zero, List.set_cons_succ]
  refine wpAnyH_done (by kernel_rfl) ?_ _
  refine NoPanic.normal ?_
  clear hHeld hr1 hr2
  have hd2 := cells_block hq2 2
  have hd3 := cells_block hq2 3
  simp only [List.getElem?_toArray, List.getElem?_cons_succ, List.getElem?_cons_zero] at hd2 hd3
  have HQ : Hid (w2.heap[w1.heap.size]? = _) := hq2
  clear hq2
  go_wp2
  go_loopw [8, 9, 10, 11] (fun i _ _ _ wr => ∃ k : Nat, k ≤ n ∧ i = .int .i64 k ∧ Below w2.heap.size w2 wr) (fun i _ _ _ _ => n - (intOf i).toNat)
  case atStart => exact ⟨0, Nat.zero_le _, rfl, Below.drew (Below.refl _ _)⟩
  case round =>
    obtain ⟨k, hk, rfl, hbel⟩ := hrel
    have hs1 := hb1.size
    simp only [World.size_alloc] at hs1
    have hs2 := HL.out.kBel.size
    simp only [World.size_alloc] at hs2
    have hVl := lt_of_block HG.out.gv
    have hLs := HL.out.kSize
    have hStl := lt_of_block HG.out.gst
    by_cases hlt : k < n
    · have hdone := HL.out.kDone k hlt
      have hbalF := hao (by omega)
      obtain ⟨b, off, rfl, hb, hcell⟩ := hbalF
      have hb2 : Below w.heap.size w w2 := base_up hb1 HL.out.kBel
      have hbal : wr.cell? ⟨b, off + k, none⟩ = some (.int .u64 (zs.getD k 0)) := (hbel.cell (by show b < _; omega)).trans ((hb2.cell hb).trans (hcell k hlt))
      have hzz := hz k
      obtain ⟨z, hzk⟩ : ∃ z, z = zs.getD k 0 := ⟨_, rfl⟩
      simp only [← hzk] at hbal hzz hdone
      clear hzk hao hcell hz hb2
      obtain ⟨hz1, hz2⟩ := hzz
      have hd2r : wr.cell? ⟨w1.heap.size, 2, none⟩ = some (.int .u64 x2) := (hbel.cell (by show w1.heap.size < _; omega)).trans hd2
      have hsr : wr.cell? ⟨St, 20, none⟩ = some (.slice (some ⟨V, 0, none⟩) n n) := (hbel.cell (by show St < _; omega)).trans hc20
      have hrr : wr.rangeAt V (k * 7) (vcs z (effB z y3 x2) 0 0) := fun j v hv => (hbel.cell (by show V < _; omega)).trans (hdone j v hv)
      have hBr : Hid (Below w2.heap.size w2 wr) := hbel
      have hwr := wrap_mul hz1 hy3p hz2
      clear hbel hdone hd2 hd3 hc20 hb1 hs1 hs2 hVl hLs hStl hn1 hn2 hn3 hn4
      by_cases hcap : x2 < z / y3 * y3
      · rw [eff_over hz1 hy3p hcap] at hrr
        have HR : Hid (wr.rangeAt V (k * 7) (vcs z x2 0 0)) := hrr
        clear hrr
        go_wp2_with (first
          | (refine wpList_load_mid rfl 65 (.tmp 66) rfl V (k * 7) rfl (vcs z x2 0 0) _ HR.out Yba.underlying65 rfl Yba.size65 ?_)
          | (refine wpList_store_last rfl 65 (.tmp 11) (.tmp 67) rfl _ _ _ (vcs z x2 0 0).toArray rfl rfl rfl rfl Yba.size65 rfl (vcs_one _ _ _ _) ?_))
        go_roundw
        case rel => exact ⟨k + 1, hlt, by go_num, hBr.out.alloc hBr.out.size _⟩
        case measure => simp [intOf]; omega
      · rw [eff_under hz1 hy3p hcap] at hrr
        have HR : Hid (wr.rangeAt V (k * 7) (vcs z (z / y3 * y3) 0 0)) := hrr
        clear hrr
        go_wp2_with (first
          | (refine wpList_load_mid rfl 65 (.tmp 66) rfl V (k * 7) rfl (vcs z (z / y3 * y3) 0 0) _ HR.out Yba.underlying65 rfl Yba.size65 ?_)
          | (refine wpList_store_last rfl 65 (.tmp 11) (.tmp 67) rfl _ _ _ (vcs z (z / y3 * y3) 0 0).toArray rfl rfl rfl rfl Yba.size65 rfl (vcs_one _ _ _ _) ?_))
        go_roundw
        case rel => exact ⟨k + 1, hlt, by go_num, hBr.out.alloc hBr.out.size _⟩
        case measure => simp [intOf]; omega
    · have hb2 : Below w.heap.size w w2 := base_up hb1 HL.out.kBel
      have hend : Below w.heap.size w wr := hb2.trans (hbel.mono (by omega))
      clear hb2 hbel hd2 hd3 hc20 hb1 hs1 hs2 hVl hLs hStl hn1 hn2 hn3 hn4 hao hz
      go_wp2
      go_ret
      exact ⟨rfl, hend⟩

end Go.Proofs.Ybulkanzs
