/-
  The law's walk.
-/
import Derived.Test.YbulkaobiParts
import Derived.Deep.DeepCutAuto
namespace Go.Proofs.Ybulkaobi
open Go.RowKit
set_option linter.unusedSimpArgs false
set_option linter.unusedVariables false

theorem Yba.info41 : (Yba.prog.info? 41).map (fun i => (i.zero, i.size, i.bytes)) = some (some (.agg #[.int .i64 0, .slice none 0 0, .nilIface, .int .u64 0]), 4, 56) := by kernel_rfl
theorem Yba.info21 : (Yba.prog.info? 21).map (fun i => (i.zero, i.size, i.bytes)) = some (some (.int .i32 0), 1, 4) := by kernel_rfl

set_option maxRecDepth 20000 in
theorem law_big (a0 a2 a3 a5 : Option Addr) (nc c0 nm c2 nb c3 pn c5 : Nat) (iu inp : Int) (w : World) (h : 1024 < nc ∨ 1024 < nm ∨ 1024 < nb ∨ 1024 < pn ∨ nc = 0) :
    Calls Yba.prog 5 #[.slice a0 nc c0, .int .u64 iu, .slice a2 nm c2, .slice a3 nb c3, .int .i32 inp, .slice a5 pn c5] w fun e w' => e = .returned (.bool true) ∧ w = w' := by
  by_cases h1 : (1024 : Int) < nc
  · clear h
    go_enter Yba.func5, Yba.ntmps5
    go_wp2
    go_ret
    exact ⟨rfl, rfl⟩
  by_cases h2 : (1024 : Int) < nm
  · clear h
    go_enter Yba.func5, Yba.ntmps5
    go_wp2
    go_ret
    exact ⟨rfl, rfl⟩
  by_cases h3 : (1024 : Int) < nb
  · clear h
    go_enter Yba.func5, Yba.ntmps5
    go_wp2
    go_ret
    exact ⟨rfl, rfl⟩
  by_cases h4 : (1024 : Int) < pn
  · clear h
    go_enter Yba.func5, Yba.ntmps5
    go_wp2
    go_ret
    exact ⟨rfl, rfl⟩
  have hz : nc = 0 := by omega
  subst hz
  clear h
  go_enter Yba.func5, Yba.ntmps5
  go_wp2
  go_ret
  exact ⟨rfl, rfl⟩

theorem build82 (a1 a2 : Option Addr) (n1 c1 n2 c2 : Nat) : ∃ l : List Value, (∀ w, (Instr.build 82 #[(2, .slice a1 n1 c1), (12, .slice a2 n2 c2)]).run Yba.prog w = .ok (.agg l.toArray) w) ∧ l[9]? = some (.slice a1 n1 c1) ∧ l[30]? = some (.slice a2 n2 c2) :=
  ⟨((((Yba.prog.info? 82).bind (·.zero)).map (fun z => z.cells.toList)).getD []).set 9 (.slice a1 n1 c1) |>.set 30 (.slice a2 n2 c2), fun w => by kernel_rfl, by kernel_rfl, by kernel_rfl⟩

theorem wpList_search {ops : Array Oper} {rest : List Oper} {o : Oper} {a : Act} {w : World} {Q : Exit → Act → World → Prop} (hgd : o.guard = none) (x y : Operand) (hop : o.op = Op.build 82 #[(2, x), (12, y)])
    (a1 a2 : Option Addr) (n1 c1 n2 c2 : Nat) (hx : a.eval x = .slice a1 n1 c1) (hy : a.eval y = .slice a2 n2 c2)
    (h : ∀ l : List Value, l[9]? = some (.slice a1 n1 c1) → l[30]? = some (.slice a2 n2 c2) → wpList Yba.prog ops Q rest (a.put o.dst (.agg l.toArray)) w) : wpList Yba.prog ops Q (o :: rest) a w := by
  refine wpList_plain hgd fun _ hK => ?_
  obtain ⟨l, hl, h9, h30⟩ := build82 a1 a2 n1 c1 n2 c2
  have h' := hK _ _ (h l h9 h30)
  clear h hK
  unfold Oper.wp
  unfold execOp
  simp only [hop, List.map_toArray, List.map_cons, List.map_nil, hx, hy, Sem.run_bind, hl, Result.andThen_ok, Sem.run_pure]
  exact h'

theorem wpList_boxed {P : Program} {ops : Array Oper} {rest : List Oper} {o : Oper} {a : Act} {w : World} {Q : Exit → Act → World → Prop} (hgd : o.guard = none) (t : TypeId) (x : Operand) (hop : o.op = Op.box t x) (cs : List Value) (hx : a.eval x = .agg cs.toArray)
    (h : wpList P ops Q rest (a.put o.dst (.pointer (some ⟨w.heap.size, 0, none⟩))) (w.alloc (.cells cs.toArray t (0, 0)))) : wpList P ops Q (o :: rest) a w := by
  refine wpList_plain hgd fun _ hK => ?_
  have h' := hK _ _ h
  clear h hK
  unfold Oper.wp
  simp only [execOp, hop, hx]
  simp [Instr.box, newVar, Value.cells, Result.andThen]
  exact h'

/-- The cells of a message. -/
def mf (F : Nat → Int) (D : Nat → Value) (t : Nat) : List Value := [.int .i64 (F t), D t, .nilIface, .int .u64 0]

theorem gl_start (w : World) (n s : Nat) (c : Array Value) (t : TypeId) (hc : c.size = n * s) (f : Nat → List Value) (w0 : World) (N : Nat) (h0 : Below N w0 (w.alloc (.cells c t))) : GL N w.heap.size n s (w.alloc (.cells c t)) w0 f 0 (w.alloc (.cells c t)) :=
  ⟨fun _ _ _ => rfl, Nat.le_refl _, there_block (heap_new w _) hc, fun _ h => absurd h (Nat.not_lt_zero _), h0⟩

theorem six {l : List Value} (h : l.length = 6) : ∃ x0 x1 x2 x3 x4 x5, l = [x0, x1, x2, x3, x4, x5] := by
  match l, h with
  | [x0, x1, x2, x3, x4, x5], _ => exact ⟨x0, x1, x2, x3, x4, x5, rfl⟩

set_option maxHeartbeats 4000000 in
set_option maxRecDepth 20000 in
theorem law_any (b0 o0 c0 nc : Nat) (zs : List Int) (hl : zs.length = nc) (hn0 : 0 < nc) (hnc : nc ≤ 1024) (iu : Int) (hiu : 0 ≤ iu) (hiu2 : iu ≤ 18446744073709551615) (mo : Option Addr) (nm mc : Nat) (F : Nat → Int) (D : Nat → Value) (hnm : nm ≤ 1024) (bo : Option Addr) (nb bc : Nat) (bz : Nat → Int) (hnb : nb ≤ 1024) (inp : Int) (hinp : -2147483648 ≤ inp) (hinp2 : inp ≤ 2147483647) (po : Option Addr) (pn pc : Nat) (hpn : pn ≤ 1024) (w : World)
    (hcor : ∀ j, j < nc → w.cell? ⟨b0, o0 + j, none⟩ = some (.int .i64 (zs.getD j 0))) (hM : Msgs w mo nm F D) (hB : 0 < nb → ∃ b off, bo = some ⟨b, off, none⟩ ∧ ∀ j, j < nb → w.cell? ⟨b, off + j, none⟩ = some (.int .i32 (bz j)) ∧ -2147483648 ≤ bz j ∧ bz j ≤ 2147483647) (hP : RowAt w .i64 po pn) :
    Calls Yba.prog 5 #[.slice (some ⟨b0, o0, none⟩) nc c0, .int .u64 iu, .slice mo nm mc, .slice bo nb bc, .int .i32 inp, .slice po pn pc] w fun e w' => e = .returned (.bool true) ∧ Below w.heap.size w w' := by
  have HCOR : Hid (∀ j, j < nc → w.cell? ⟨b0, o0 + j, none⟩ = some (.int .i64 (zs.getD j 0))) := hcor
  have HM : Hid (Msgs w mo nm F D) := hM
  have HB : Hid (0 < nb → ∃ b off, bo = some ⟨b, off, none⟩ ∧ ∀ j, j < nb → w.cell? ⟨b, off + j, none⟩ = some (.int .i32 (bz j)) ∧ -2147483648 ≤ bz j ∧ bz j ≤ 2147483647) := hB
  have HP : Hid (RowAt w .i64 po pn) := hP
  clear hcor hM hB hP
  obtain ⟨i, hi, hilt⟩ : ∃ i : Nat, iu % (nc : Int) = i ∧ i < nc := ⟨(iu % (nc : Int)).toNat, by have := rem_bd (x := iu) (n := nc) hiu hn0; omega, by have := rem_bd (x := iu) (n := nc) hiu hn0; omega⟩
  have hwi : IntKind.i64.wrap (i : Int) = (i : Int) := by simp [IntKind.wrap, IntKind.signed, IntKind.bits]; omega
  have hwn : IntKind.u64.wrap (nc : Int) = (nc : Int) := by simp [IntKind.wrap, IntKind.signed, IntKind.bits]; omega
  have hnz : ((nc : Int) == 0) = false := by simp; omega
  obtain ⟨i41, hi41, hz0, hz1, hz2⟩ := info_parts Yba.info41
  have HI41 : Hid (Yba.prog.info? 41 = some i41) := hi41
  clear hi41
  go_enter Yba.func5, Yba.ntmps5
  go_wp2_with (first
    | (refine wpList_make_block rfl (.tmp 52) (.tmp 52) 33 rfl 41 i41 _ 4 Yba.underlying33 HI41.out hz0 hz1 .i64 .i64 (nm : Int) (nm : Int) nm rfl rfl rfl rfl (by rw [hz2]; omega) (by omega) _ rfl ?_)
    | fail)
  go_loopw [56, 15] (fun c x wr => ∃ k : Nat, k ≤ nm ∧ c = .int .i64 k ∧ GL w.heap.size w.heap.size nm 4 (w.alloc (.cells (madeCells (Value.agg #[.int .i64 0, .slice none 0 0, .nilIface, .int .u64 0]).cells (nm * 4)) 41 (0, 0))) w (mf F D) k wr) (fun c _ _ => nm - (intOf c).toNat)
  case atStart => exact ⟨0, Nat.zero_le _, rfl, gl_start w nm 4 _ 41 (size_madeCells _ _) _ _ _ ((Below.refl _ _).alloc (Nat.le_refl _) _)⟩
  case round =>
    obtain ⟨k, hk, rfl, hgl⟩ := hrel
    have hbr : Below w.heap.size w wr := hgl.kBel
    have hszr : w.heap.size + 1 ≤ wr.heap.size := by have := hgl.kSize; simpa using this
    have HGL : Hid (GL w.heap.size w.heap.size nm 4 (w.alloc (.cells (madeCells (Value.agg #[.int .i64 0, .slice none 0 0, .nilIface, .int .u64 0]).cells (nm * 4)) 41 (0, 0))) w (mf F D) k wr) := hgl
    clear hgl
    by_cases hlt : k < nm
    · obtain ⟨mb, moff, rfl, hc⟩ := HM.out.cells (by omega)
      obtain ⟨c1, c2⟩ := hc k hlt
      obtain ⟨dO, dn, dc, hd, _⟩ := HM.out.bytes k
      rw [hd] at c2
      have hml : mb < w.heap.size := World.block_lt_of_cell? w _ c1
      have c1' := cell_up c1 hbr
      have c2' := cell_up c2 hbr
      clear hc c1 c2
      have HD : Hid (D k = .slice dO dn dc) := hd
      clear hd
      obtain ⟨⟨y0, hy0⟩, hf0⟩ := gl_cell HGL.out hlt 0 (by omega)
      obtain ⟨⟨y1, hy1⟩, hf1⟩ := gl_cell HGL.out hlt 1 (by omega)
      obtain ⟨⟨y2, hy2⟩, hf2⟩ := gl_cell HGL.out hlt 2 (by omega)
      obtain ⟨⟨y3, hy3⟩, hf3⟩ := gl_cell HGL.out hlt 3 (by omega)
      simp only [Nat.add_zero] at hy0 hf0
      have hlt' : (k : Int) < (nm : Int) := by omega
      clear hbr
      go_wp2
      go_region
      go_wp2
      go_roundw
      case rel =>
        have hput := GL.cellsIn HGL.out (Nat.le_refl _) hlt (fun _ => rfl)
        have hd := HD.out
        simp only [mf, hd] at hput
        exact ⟨k + 1, hlt, by go_num, GL.grow hput (Below.drew (Below.refl _ _)) (by simp) (by rw [size_setCells]; omega)⟩
      case measure => simp [intOf]; omega
    · have hkn : nm = k := by omega
      subst hkn
      have HE1 : Hid (∀ t, t < nm → wr.cell? ⟨w.heap.size, t * 4, none⟩ = some (.int .i64 (F t)) ∧ wr.cell? ⟨w.heap.size, t * 4 + 1, none⟩ = some (D t) ∧ wr.cell? ⟨w.heap.size, t * 4 + 2, none⟩ = some .nilIface ∧ wr.cell? ⟨w.heap.size, t * 4 + 3, none⟩ = some (.int .u64 0)) := fun t ht => by
        have h := HGL.out.kDone t ht
        exact ⟨h 0 _ rfl, h 1 _ rfl, h 2 _ rfl, h 3 _ rfl⟩
      clear HGL
      have HBR : Hid (Below w.heap.size w wr) := hbr
      clear hbr
      go_upto_if 81 with (first
        | (go_at_call 8; refine (clone_any b0 o0 nc c0 zs hl hn0 hnc wr (fun j hj => cell_up (HCOR.out j hj) HBR.out)).mono ?_; rintro e w2 ⟨cb, cc, rfl, hcb, hb2⟩)
        | (refine wpList_search rfl (.tmp 76) (.tmp 77) rfl (some ⟨cb, 0, none⟩) (some ⟨w.heap.size, 0, none⟩) nc cc nm nm rfl rfl ?_; intro l h9 h30)
        | (refine wpList_boxed rfl 82 (.tmp 78) rfl l rfl ?_)
        | fail)
      have hEnv : Env w2.heap.size cb w.heap.size i nc cc nm (zs.getD i 0) F D (w2.alloc (.cells l.toArray 82 (0, 0))) :=
        ⟨(cells_block (heap_new _ _) 9).trans (by simpa using h9), (cells_block (heap_new _ _) 30).trans (by simpa using h30), cell_up (hcb i hilt) ((Below.refl _ _).alloc (Nat.le_refl _) _), fun t ht => by
          obtain ⟨e0, e1, e2, e3⟩ := HE1.out t ht
          have hb3 : Below wr.heap.size wr (w2.alloc (.cells l.toArray 82 (0, 0))) := hb2.alloc hb2.size _
          exact ⟨cell_up e0 hb3, cell_up e1 hb3, cell_up e2 hb3, cell_up e3 hb3⟩⟩
      have hB3 : Below w.heap.size w (w2.alloc (.cells l.toArray 82 (0, 0))) := HBR.out.trans ((hb2.alloc hb2.size _).mono (by omega))
      generalize w2.alloc (.cells l.toArray 82 (0, 0)) = w3 at hEnv hB3 ⊢
      generalize w2.heap.size = S at hEnv ⊢
      have HENV : Hid (Env S cb w.heap.size i nc cc nm (zs.getD i 0) F D w3) := hEnv
      have HB3 : Hid (Below w.heap.size w w3) := hB3
      clear hEnv hB3 HE1 HBR hcb hb2 h9 h30 hszr
      obtain ⟨i21, hi21, hy0, hy1, hy2⟩ := info_parts Yba.info21
      have HI21 : Hid (Yba.prog.info? 21 = some i21) := hi21
      clear hi21
      go_cut [18] (fun v wx => ∃ bo' bc', v = .slice bo' nb bc' ∧ Ahead wx nm bo' nb (fun j => mapx (bz j) nm) ∧ Below w3.heap.size w3 wx)
      case first =>
        clear HI41 hz0 hz1 hz2
        cases bo with
        | none =>
          have hnb0 : nb = 0 := by
            rcases Nat.eq_zero_or_pos nb with h | h
            · exact h
            · obtain ⟨b, off, h1, _⟩ := HB.out h
              exact absurd h1 (by simp)
          subst hnb0
          go_wp2
          go_meet
          exact ⟨none, 0, rfl, fun h => absurd h (by omega), Below.refl _ _⟩
        | some ad =>
          go_wp2_with (first
            | (refine wpList_make_block rfl (.tmp 83) (.tmp 83) 32 rfl 21 i21 _ 1 Yba.underlying32 HI21.out hy0 hy1 .i64 .i64 (nb : Int) (nb : Int) nb rfl rfl rfl rfl (by rw [hy2]; omega) (by omega) _ rfl ?_)
            | fail)
          go_loopw [87, 19] (fun c x wr => ∃ k : Nat, k ≤ nb ∧ c = .int .i64 k ∧ GL w3.heap.size w3.heap.size nb 1 (w3.alloc (.cells (madeCells #[.int .i32 0] nb) 21 (0, 0))) w3 (fun j => [.int .i32 (mapx (bz j) nm)]) k wr) (fun c _ _ => nb - (intOf c).toNat)
          case atStart => exact ⟨0, Nat.zero_le _, rfl, gl_start w3 nb 1 _ 21 (by rw [size_madeCells, Nat.mul_one]) _ _ _ ((Below.refl _ _).alloc (Nat.le_refl _) _)⟩
          case round =>
            obtain ⟨k, hk, rfl, hgl⟩ := hrel
            have hszr : w3.heap.size + 1 ≤ wr.heap.size := by have := hgl.kSize; simpa using this
            have HGL : Hid (GL w3.heap.size w3.heap.size nb 1 (w3.alloc (.cells (madeCells #[.int .i32 0] nb) 21 (0, 0))) w3 (fun j => [.int .i32 (mapx (bz j) nm)]) k wr) := hgl
            clear hgl
            by_cases hlt : k < nb
            · obtain ⟨b, off, h1, hc⟩ := HB.out (by omega)
              cases h1
              obtain ⟨c1, hbl, hbh⟩ := hc k hlt
              have c1' := cell_up (cell_up c1 HB3.out) HGL.out.kBel
              clear hc c1
              obtain ⟨⟨y0, hy⟩, hf0⟩ := gl_cell HGL.out hlt 0 (by omega)
              simp only [Nat.add_zero, Nat.mul_one] at hy hf0
              have hlt' : (k : Int) < (nb : Int) := by omega
              go_wp2_with (first
                | (go_at_call 9; refine (cmap_any (bz k) nm hbl hbh hnm wr).mono ?_; rintro e w5 ⟨rfl, rfl⟩)
                | fail)
              go_roundw
              case rel =>
                have hput := GL.cellsIn HGL.out (Nat.le_refl _) hlt (fun _ => rfl)
                have e : ∀ v, wr.setCells w3.heap.size (k * 1) [v] = wr.setCell ⟨w3.heap.size, k, none⟩ v := fun v => by rw [Nat.mul_one]; rfl
                rw [e] at hput
                exact ⟨k + 1, hlt, by go_num, hput⟩
              case measure => simp [intOf]; omega
            · have hkn : nb = k := by omega
              subst hkn
              go_wp2
              go_meet
              refine ⟨some ⟨w3.heap.size, 0, none⟩, nb, rfl, fun hn => ⟨w3.heap.size, rfl, fun j hj => ⟨?_, ?_⟩⟩, HGL.out.kBel⟩
              · have h := HGL.out.kDone j hj 0 _ rfl
                simpa using h
              · obtain ⟨b, off, h1, hc⟩ := HB.out hn
                have h := mapx_bd (bz j) nm (hc j hj).2.1 (hc j hj).2.2
                exact ⟨h.1, h.2.2⟩
      case rest =>
        obtain ⟨bo', bc', rfl, hah, hbw⟩ := hcut
        have HAH : Hid (Ahead wc nm bo' nb (fun j => mapx (bz j) nm)) := hah
        have HEC : Hid (Env S cb w.heap.size i nc cc nm (zs.getD i 0) F D wc) := HENV.out.up hbw
        have HBC : Hid (Below w.heap.size w wc) := HB3.out.trans (hbw.mono HB3.out.size)
        clear hah hbw HENV HB3 HI21 hy0 hy1 hy2 HI41 hz0 hz1 hz2
        obtain ⟨y, hy⟩ : ∃ y, y = mapx inp nm := ⟨_, rfl⟩
        have hoy : okIn nm y := by
          have h := mapx_bd inp nm hinp hinp2
          rw [hy]
          exact ⟨h.1, h.2.2⟩
        have HOY : Hid (okIn nm y) := hoy
        have HY : Hid (y = mapx inp nm) := hy
        clear hoy hy
        have hwnb : IntKind.i64.wrap ((nb : Int) + 1) = (nb : Int) + 1 := by simp [IntKind.wrap, IntKind.signed, IntKind.bits]; omega
        go_wp2_with (first
          | (go_at_call 9; refine (cmap_any inp nm hinp hinp2 hnm wc).mono ?_; rintro e w5 ⟨rfl, rfl⟩; rw [← HY.out])
          | (go_at_call 10; refine (steps_all HM.out.form hnm hilt hnc y HOY.out po bo' pn pc nb bc' (fun j => mapx (bz j) nm) hnb _ (HEC.out.up ((Below.refl _ _).alloc (Nat.le_refl _) _)) (HAH.out.up ((Below.refl _ _).alloc (Nat.le_refl _) _))).mono ?_; rintro e w4 ⟨v, rfl, hown, hb4⟩; obtain ⟨g, gc, rfl, hg⟩ := own_cells hown (by omega))
          | fail)
        have hB4 : Below w.heap.size w w4 := (HBC.out.alloc HBC.out.size _).trans (hb4.mono (by have := HBC.out.size; simp; omega))
        have HA4 : Hid (Ahead w4 nm bo' nb (fun j => mapx (bz j) nm)) := (HAH.out.up ((Below.refl _ _).alloc (Nat.le_refl _) _)).up hb4
        have HB4 : Hid (Below w.heap.size w w4) := hB4
        have HGC : Hid (∀ j f u, j < nb + 1 → f < 6 → (gOf (zs.getD i 0) F D (.slice po pn pc) nb (fun j => mapx (bz j) nm) y j)[f]? = some u → w4.cell? ⟨g, j * 6 + f, none⟩ = some u) := fun j f u hj hf hu => hg _ _ (by rw [rowsTo_get (gOf_len _ _ _ _ _ _ _) _ _ _ hj hf]; exact hu)
        clear hown hb4 hg hB4 HAH HEC HBC
        obtain ⟨m, hm⟩ : ∃ m, m = zs.getD i 0 := ⟨_, rfl⟩
        have hci : w.cell? ⟨b0, o0 + i, none⟩ = some (.int .i64 m) := by rw [hm]; exact HCOR.out i hilt
        have HCI : Hid (w.cell? ⟨b0, o0 + i, none⟩ = some (.int .i64 m)) := hci
        rw [← hm] at HGC
        clear hci hm
        go_loopw [122, 23] (fun c x wr => ∃ k : Nat, k ≤ nb ∧ c = .int .i64 k ∧ Below w4.heap.size w4 wr) (fun c _ _ => nb - (intOf c).toNat)
        case atStart => exact ⟨0, Nat.zero_le _, rfl, Below.refl _ _⟩
        case round =>
          obtain ⟨k, hk, rfl, hbr⟩ := hrel
          have HBR : Hid (Below w4.heap.size w4 wr) := hbr
          have HBW : Hid (Below w.heap.size w wr) := HB4.out.trans (hbr.mono HB4.out.size)
          clear hbr
          have hci := cell_up HCI.out HBW.out
          have hil : (i : Int) < (nc : Int) := by omega
          by_cases hlt : k < nb
          · obtain ⟨b', rfl, hc⟩ := HA4.out (by omega)
            obtain ⟨c1, hok⟩ := hc k hlt
            have c1' := cell_up c1 HBR.out
            clear hc c1
            obtain ⟨x, hx⟩ : ∃ x, x = mapx (bz k) nm := ⟨_, rfl⟩
            simp only [← hx] at c1' hok
            have hgk : gOf m F D (.slice po pn pc) nb (fun j => mapx (bz j) nm) y k = stepv m F D (.slice none 0 0) x := by simp [gOf, hlt, hx]
            have hlen := stepv_len m F D (.slice none 0 0) x
            obtain ⟨l, hl6⟩ : ∃ l, l = stepv m F D (.slice none 0 0) x := ⟨_, rfl⟩
            have HOK : Hid (∀ w', Below w4.heap.size w4 w' → Calls Yba.prog 11 #[.agg l.toArray, .int .i64 m, .int .i32 x, .slice mo nm mc, .slice none 0 0, .bool true] w' fun e w'' => e = .returned (.bool true) ∧ Below w4.heap.size w4 w'') := fun w' hb => by
              rw [hl6]
              refine (ok_nil hnm _ w' hok (HM.out.up (HB4.out.trans (hb.mono HB4.out.size)))).mono ?_
              rintro e w6 ⟨rfl, hb6⟩
              exact ⟨rfl, low_trans hb hb.size hb6⟩
            rw [← hl6] at hlen hgk
            obtain ⟨x0, x1, x2, x3, x4, x5, rfl⟩ := six hlen
            clear hlen
            · skip
              have d0 := cell_up (HGC.out k 0 x0 (by omega) (by omega) (by rw [hgk]; rfl)) HBR.out
              have d1 := cell_up (HGC.out k 1 x1 (by omega) (by omega) (by rw [hgk]; rfl)) HBR.out
              have d2 := cell_up (HGC.out k 2 x2 (by omega) (by omega) (by rw [hgk]; rfl)) HBR.out
              have d3 := cell_up (HGC.out k 3 x3 (by omega) (by omega) (by rw [hgk]; rfl)) HBR.out
              have d4 := cell_up (HGC.out k 4 x4 (by omega) (by omega) (by rw [hgk]; rfl)) HBR.out
              have d5 := cell_up (HGC.out k 5 x5 (by omega) (by omega) (by rw [hgk]; rfl)) HBR.out
              simp only [Nat.add_zero] at d0
              have HX : Hid (x = mapx (bz k) nm) := hx
              clear hgk hl6 hok hx
              have hlt' : (k : Int) < (nb : Int) := by omega
              have hlt1 : (k : Int) < (nb : Int) + 1 := by omega
              go_upto_region 30 with fail
              go_cut [139] (fun v wx => v = .bool false ∧ Below w4.heap.size w4 wx)
              case first =>
                go_region_with (first
                  | (go_at_call 11; refine (HOK.out _ (by first | exact HBR.out | exact HBR.out.drew)).mono ?_; rintro e w6 ⟨rfl, hb6⟩)
                  | fail)
                all_goals (go_wp2; go_meet; exact ⟨rfl, hb6⟩)
              case rest =>
                obtain ⟨rfl, hbx⟩ := hcut
                go_wp2
                go_roundw
                case rel => exact ⟨k + 1, hlt, by go_num, hbx⟩
                case measure => simp [intOf]; omega
          · have hkn : nb = k := by omega
            subst hkn
            have hgk : gOf m F D (.slice po pn pc) nb (fun j => mapx (bz j) nm) y nb = stepv m F D (.slice po pn pc) y := by simp [gOf]
            have hlen := stepv_len m F D (.slice po pn pc) y
            obtain ⟨l, hl6⟩ : ∃ l, l = stepv m F D (.slice po pn pc) y := ⟨_, rfl⟩
            have HOK : Hid (∀ w', Below w4.heap.size w4 w' → Calls Yba.prog 11 #[.agg l.toArray, .int .i64 m, .int .i32 y, .slice mo nm mc, .slice po pn pc, .bool false] w' fun e w'' => e = .returned (.bool true) ∧ Below w.heap.size w w'') := fun w' hb => by
              rw [hl6]
              have hbw : Below w.heap.size w w' := HB4.out.trans (hb.mono HB4.out.size)
              refine (ok_pl hnm po pn pc hpn w' HOY.out (HM.out.up hbw) (HP.out.up hbw)).mono ?_
              rintro e w6 ⟨rfl, hb6⟩
              exact ⟨rfl, low_trans hbw hbw.size hb6⟩
            rw [← hl6] at hlen hgk
            obtain ⟨x0, x1, x2, x3, x4, x5, rfl⟩ := six hlen
            clear hlen
            have d0 := cell_up (HGC.out nb 0 x0 (by omega) (by omega) (by rw [hgk]; rfl)) HBR.out
            have d1 := cell_up (HGC.out nb 1 x1 (by omega) (by omega) (by rw [hgk]; rfl)) HBR.out
            have d2 := cell_up (HGC.out nb 2 x2 (by omega) (by omega) (by rw [hgk]; rfl)) HBR.out
            have d3 := cell_up (HGC.out nb 3 x3 (by omega) (by omega) (by rw [hgk]; rfl)) HBR.out
            have d4 := cell_up (HGC.out nb 4 x4 (by omega) (by omega) (by rw [hgk]; rfl)) HBR.out
            have d5 := cell_up (HGC.out nb 5 x5 (by omega) (by omega) (by rw [hgk]; rfl)) HBR.out
            simp only [Nat.add_zero] at d0
            clear hgk hl6
            have hlt1 : (nb : Int) < (nb : Int) + 1 := by omega
            go_upto_region 33 with fail
            go_region_with (first
              | (go_at_call 11; refine (HOK.out _ (by first | exact HBR.out | exact HBR.out.drew)).mono ?_; rintro e w6 ⟨rfl, hb6⟩)
              | fail)
            all_goals (go_wp2; go_ret; exact ⟨rfl, hb6⟩)
end Go.Proofs.Ybulkaobi
