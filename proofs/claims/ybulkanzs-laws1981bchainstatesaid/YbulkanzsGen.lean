/-
  Genesis: the walk.
-/
import Derived.Test.YbulkanzsGenLaws
namespace Go.Proofs.Ybulkanzs
open Go.RowKit YbulkanzsLaws
set_option linter.unusedSimpArgs false

/-- What Genesis leaves. -/
def GPost (P : List Value) (c n : Nat) (f : Nat → List Value) (w w' : World) (p : Value) : Prop :=
  ∃ (wc : World) (St V J gh : Nat) (vs : Value), GMid w.heap.size P c n w wc p St V J gh vs ∧ V ≠ St ∧ V ≠ J ∧ V ≠ gh ∧ (∀ gv cap, vs = .slice (some ⟨gv, 0, none⟩) n cap → 0 < n → V ≠ gv) ∧ GL w.heap.size V n wc w f n w'

set_option maxHeartbeats 2000000 in
set_option maxRecDepth 20000 in
theorem gen_all (s : ByteArray) (c : Nat) (x2 x3 : Int) (r4 r5 r6 r7 r8 r9 r10 r11 r12 r13 r14 r15 r16 r17 r18 r19 : Value) (zs : List Int) (n : Nat) (hn : n ≤ 1024) (hc : c ≤ 64) (h3 : 0 < x3) (ao : Option Addr) (cap : Nat) (w : World)
    (hao : 0 < n → ∃ b off, ao = some ⟨b, off, none⟩ ∧ b < w.heap.size ∧ ∀ j, j < n → w.cell? ⟨b, off + j, none⟩ = some (.int .u64 (zs.getD j 0)))
    (hz : ∀ j, 0 ≤ zs.getD j 0 ∧ zs.getD j 0 ≤ 18446744073709551615) :
    Calls Yba.prog 13 #[.agg (pcs s c x2 x3 [r4, r5, r6, r7, r8, r9, r10, r11, r12, r13, r14, r15, r16, r17, r18, r19]).toArray, .slice ao n cap] w fun e w' => ∃ p, e = .returned p ∧ GPost (pcs s c x2 x3 [r4, r5, r6, r7, r8, r9, r10, r11, r12, r13, r14, r15, r16, r17, r18, r19]) c n (fun j => vcs (zs.getD j 0) (effB (zs.getD j 0) x3 x2) 0 0) w w' p := by
  obtain ⟨i0, hi, hz0, hz1, hz2⟩ := info_parts Yba.info65
  go_enter Yba.func13, Yba.ntmps13
  go_wp2
  go_cut [5] (fun p w' => ∃ St V J gh vs, GMid w.heap.size (pcs s c x2 x3 [r4, r5, r6, r7, r8, r9, r10, r11, r12, r13, r14, r15, r16, r17, r18, r19]) c n w w' p St V J gh vs)
  case rest =>
    obtain ⟨St, V, J, gh, vs, hg⟩ := hcut
    clear hi hz0 hz1 hz2 i0
    have hgp := hg.gp
    subst hgp
    have hVlt := lt_of_block hg.gv
    have hNV := hg.nv
    have hne := mid_apart hg
    have HG : Hid (GMid w.heap.size (pcs s c x2 x3 [r4, r5, r6, r7, r8, r9, r10, r11, r12, r13, r14, r15, r16, r17, r18, r19]) c n w wc (.pointer (some ⟨St, 0, none⟩)) St V J gh vs) := hg
    have hst : GL w.heap.size V n wc w (fun j => vcs (zs.getD j 0) (effB (zs.getD j 0) x3 x2) 0 0) 0 wc := mid_start hg
    clear hg
    go_wp2
    go_loopw [23] (fun i wr => ∃ k : Nat, k ≤ n ∧ i = .int .i64 k ∧ GL w.heap.size V n wc w (fun j => vcs (zs.getD j 0) (effB (zs.getD j 0) x3 x2) 0 0) k wr) (fun i _ => n - (intOf i).toNat)
    case atStart => exact ⟨0, Nat.zero_le _, rfl, hst⟩
    case round =>
      obtain ⟨k, hk, rfl, hinv⟩ := hrel
      clear hst
      by_cases hlt : k < n
      · obtain ⟨b, off, rfl, hb, hcell⟩ := hao (by omega)
        have hbal : wr.cell? ⟨b, off + k, none⟩ = some (.int .u64 (zs.getD k 0)) := (hinv.kBel.cell hb).trans (hcell k hlt)
        obtain ⟨z, hzk⟩ : ∃ z, z = zs.getD k 0 := ⟨_, rfl⟩
        rw [← hzk] at hbal
        have hzz := hz k
        rw [← hzk] at hzz
        have HZ : Hid (z = zs.getD k 0) := hzk
        clear hzk hao hcell hz
        obtain ⟨hz1, hz2⟩ := hzz
        have hbox : wr.heap[w.heap.size]? = some (.cells (pcs s c x2 x3 [r4, r5, r6, r7, r8, r9, r10, r11, r12, r13, r14, r15, r16, r17, r18, r19]).toArray 53 (0, 0)) := (hinv.kKeep _ (by omega) (by omega)).trans HG.out.gbox
        have HB : Hid (wr.heap[w.heap.size]? = some (.cells (pcs s c x2 x3 [r4, r5, r6, r7, r8, r9, r10, r11, r12, r13, r14, r15, r16, r17, r18, r19]).toArray 53 (0, 0))) := hbox
        have HI : Hid (GL w.heap.size V n wc w (fun j => vcs (zs.getD j 0) (effB (zs.getD j 0) x3 x2) 0 0) k wr) := hinv
        clear hinv hbox
        go_wp2_with (first
          | (refine wpList_load_mid rfl 53 (.tmp 2) rfl w.heap.size 0 rfl (pcs s c x2 x3 [r4, r5, r6, r7, r8, r9, r10, r11, r12, r13, r14, r15, r16, r17, r18, r19]) _ (range_block HB.out) Yba.underlying53 rfl Yba.size53 ?_)
          | (go_at_call 16; refine (newv_any s c x2 x3 [r4, r5, r6, r7, r8, r9, r10, r11, r12, r13, r14, r15, r16, r17, r18, r19] rfl z _ hz1 h3 hz2).mono ?_; rintro e w1 ⟨rfl, hb1⟩)
          | (refine wpList_store_last rfl 65 (.tmp 8) (.tmp 30) rfl _ _ _ (vcs z (effB z x3 x2) 18446744073709551615 18446744073709551615).toArray rfl rfl rfl rfl Yba.size65 rfl (vcs_one _ _ _ _) ?_))
        have HI1 : Hid (GL w.heap.size V n wc w (fun j => vcs (zs.getD j 0) (effB (zs.getD j 0) x3 x2) 0 0) k w1) := GL.grow HI.out hb1 hVlt (by have := HI.out.kSize; omega)
        have hsz1 := HI1.out.kSize
        have hStl := lt_of_block HG.out.gst
        have hVw : V < w1.heap.size := by omega
        have hSw : St < w1.heap.size := by omega
        have hcs : w1.cell? ⟨St, 20, none⟩ = some (.slice (some ⟨V, 0, none⟩) n n) := (cells_block ((HI1.out.kKeep St hStl (fun e => hne.1 e.symm)).trans HG.out.gst) 20).trans rfl
        obtain ⟨⟨y0, hy0⟩, hf0⟩ := gl_cell HI1.out hlt 0 (by omega)
        obtain ⟨⟨y1, hy1⟩, hf1⟩ := gl_cell HI1.out hlt 1 (by omega)
        obtain ⟨⟨y2, hy2⟩, hf2⟩ := gl_cell HI1.out hlt 2 (by omega)
        obtain ⟨⟨y3, hy3⟩, hf3⟩ := gl_cell HI1.out hlt 3 (by omega)
        obtain ⟨⟨y4, hy4⟩, hf4⟩ := gl_cell HI1.out hlt 4 (by omega)
        obtain ⟨⟨y5, hy5⟩, hf5⟩ := gl_cell HI1.out hlt 5 (by omega)
        obtain ⟨⟨y6, hy6⟩, hf6⟩ := gl_cell HI1.out hlt 6 (by omega)
        simp only [Nat.add_zero] at hy0 hf0
        clear hb1 hsz1 hStl
        go_region
        go_wp2
        go_roundw
        case rel =>
          refine ⟨k + 1, hlt, by go_num, ?_⟩
          have hz0 := HZ.out
          have hput := GL.cellsIn HI1.out (by omega) hlt (fun _ => rfl)
          simp only [← hz0] at hput
          exact GL.grow hput (Below.drew (Below.alloc (Below.refl _ _) (Nat.le_refl _) _)) hVlt (by rw [size_setCells]; omega)
        case measure => simp [intOf]; omega
      · have hkn : k = n := by omega
        have HI : Hid (GL w.heap.size V n wc w (fun j => vcs (zs.getD j 0) (effB (zs.getD j 0) x3 x2) 0 0) k wr) := hinv
        clear hinv
        go_wp2
        go_ret
        refine ⟨_, rfl, wc, St, V, J, gh, vs, HG.out, hne.1, hne.2.1, hne.2.2.1, hne.2.2.2, ?_⟩
        have h := HI.out
        rw [hkn] at h
        exact h
  case first =>
    clear hao hz
    refine wp_region_noPanic ?_
    refine wp_region_held_drew (S := fun w' => w'.heap[w.heap.size]? = some (.cells (pcs s c x2 x3 [r4, r5, r6, r7, r8, r9, r10, r11, r12, r13, r14, r15, r16, r17, r18, r19]).toArray 53 (0, 0)) ∧ Below w.heap.size w w') (by kernel_rfl) ⟨heap_alloc_last w _, Below.drew (Below.alloc (Below.refl _ _) (Nat.le_refl _) _)⟩ (fun hHeld => ?_)
    refine wpAnyH_take (i := 0) (v := _) rfl (by kernel_rfl) (by kernel_rfl) (by kernel_rfl) (fun _ _ _ h => h) (yieldsIf_load_mid (by rfl) 53 (.tmp 2) rfl w.heap.size 0 rfl (pcs s c x2 x3 [r4, r5, r6, r7, r8, r9, r10, r11, r12, r13, r14, r15, r16, r17, r18, r19]) _ (fun w' hw' => range_block hw'.1) Yba.underlying53 rfl Yba.size53) hHeld ?_
    simp only [Act.put, List.getElem_toArray, List.getElem_cons_zero, List.getElem_cons_succ, List.setIfInBounds_toArray, List.set_cons_zero, List.set_cons_succ]
    refine wpAnyH_take (i := 1) (v := .slice ao n cap) rfl (by kernel_rfl) (by kernel_rfl) (by kernel_rfl) (fun _ _ _ h => h) (Or.inl ⟨by rfl, fun w' _ => by go_simp⟩) hHeld ?_
    simp only [Act.put, List.getElem_toArray, List.getElem_cons_zero, List.getElem_cons_succ, List.setIfInBounds_toArray, List.set_cons_zero, List.set_cons_succ]
    refine wpAnyH_take (i := 2) (v := .int .i64 (n : Int)) rfl (by kernel_rfl) (by kernel_rfl) (by kernel_rfl) (fun _ _ _ h => h) (Or.inl ⟨by rfl, fun w' _ => by go_simp⟩) hHeld ?_
    simp only [Act.put, List.getElem_toArray, List.getElem_cons_zero, List.getElem_cons_succ, List.setIfInBounds_toArray, List.set_cons_zero, List.set_cons_succ]
    refine wpAnyH_take (i := 4) (v := _) rfl (by kernel_rfl) (by kernel_rfl) (by kernel_rfl) (fun _ _ _ h => h) (yieldsIf_load_mid (by rfl) 53 (.tmp 2) rfl w.heap.size 0 rfl (pcs s c x2 x3 [r4, r5, r6, r7, r8, r9, r10, r11, r12, r13, r14, r15, r16, r17, r18, r19]) _ (fun w' hw' => range_block hw'.1) Yba.underlying53 rfl Yba.size53) hHeld ?_
    simp only [Act.put, List.getElem_toArray, List.getElem_cons_zero, List.getElem_cons_succ, List.setIfInBounds_toArray, List.set_cons_zero, List.set_cons_succ]
    refine wpAnyH_take (i := 5) (v := .agg #[.int .u64 0, .int .u64 0]) rfl (by kernel_rfl) (by kernel_rfl) (by kernel_rfl) (fun _ _ _ h => h) (Or.inl ⟨by rfl, fun w' _ => by go_simp⟩) hHeld ?_
    simp only [Act.put, List.getElem_toArray, List.getElem_cons_zero, List.getElem_cons_succ, List.setIfInBounds_toArray, List.set_cons_zero, List.set_cons_succ]
    refine wpAnyH_take (i := 6) (v := .slice ao n cap) rfl (by kernel_rfl) (by kernel_rfl) (by kernel_rfl) (fun _ _ _ h => h) (Or.inl ⟨by rfl, fun w' _ => by go_simp⟩) hHeld ?_
    simp only [Act.put, List.getElem_toArray, List.getElem_cons_zero, List.getElem_cons_succ, List.setIfInBounds_toArray, List.set_cons_zero, List.set_cons_succ]
    refine wpAnyH_take (i := 7) (v := .int .i64 (n : Int)) rfl (by kernel_rfl) (by kernel_rfl) (by kernel_rfl) (fun _ _ _ h => h) (Or.inl ⟨by rfl, fun w' _ => by go_simp⟩) hHeld ?_
    simp only [Act.put, List.getElem_toArray, List.getElem_cons_zero, List.getElem_cons_succ, List.setIfInBounds_toArray, List.set_cons_zero, List.set_cons_succ]
    refine wpAnyH_ready (rs := [3, 8, 9]) (by kernel_rfl) (by simp) ?_
    refine AllReadyH.cons (i := 3) rfl (fun K hK => ?_) (AllReadyH.cons (i := 8) rfl (fun K hK => ?_) (AllReadyH.cons (i := 9) rfl (fun K hK => ?_) AllReadyH.nil))
    · refine step_make rfl (.tmp 11) (.tmp 11) 56 rfl 65 i0 _ 7 Yba.underlying56 hi hz0 hz1 .i64 .i64 _ _ n rfl rfl rfl rfl (by rw [hz2]; omega) (by omega) ?_
      intro w1 hV hb1
      try simp only [World.size_drew, World.size_alloc] at hV
      refine hK.out _ _ ⟨blk_up hHeld.1 hb1, hHeld.2.trans (hb1.mono hHeld.2.size)⟩ (fun hHeld => ?_)
      clear hK
      try simp only [Act.put, List.getElem_toArray, List.getElem_cons_zero, List.getElem_cons_succ, List.setIfInBounds_toArray, List.set_cons_zero, List.set_cons_succ]
      refine wpAnyH_ready (rs := [8, 9]) (by kernel_rfl) (by simp) ?_
      refine AllReadyH.cons (i := 8) rfl (fun K hK => ?_) (AllReadyH.cons (i := 9) rfl (fun K hK => ?_) AllReadyH.nil)
      · go_simp
        refine (nte_all s c x2 x3 [r4, r5, r6, r7, r8, r9, r10, r11, r12, r13, r14, r15, r16, r17, r18, r19] n hn hc _).mono ?_
        rintro e w2 ⟨gh, vs, rfl, hg1, hg2, hg3, hb2⟩
        obtain ⟨vo, vl, vc, rfl⟩ := hg3.form
        go_wp2_with fail
        refine hK.out _ _ ⟨blk_up hHeld.1 hb2, hHeld.2.trans (hb2.mono hHeld.2.size)⟩ (fun hHeld => ?_)
        clear hK
        try simp only [Act.put, List.getElem_toArray, List.getElem_cons_zero, List.getElem_cons_succ, List.setIfInBounds_toArray, List.set_cons_zero, List.set_cons_succ]
        refine wpAnyH_ready (rs := [9]) (by kernel_rfl) (by simp) ?_
        refine AllReadyH.cons (i := 9) rfl (fun K hK => ?_) AllReadyH.nil
        · refine step_one rfl rfl ?_
          intro w3 hJ hb3
          try simp only [World.size_drew, World.size_alloc] at hJ
          refine hK.out _ _ ⟨blk_up hHeld.1 hb3, hHeld.2.trans (hb3.mono hHeld.2.size)⟩ (fun hHeld => ?_)
          clear hK
          try simp only [Act.put, List.getElem_toArray, List.getElem_cons_zero, List.getElem_cons_succ, List.setIfInBounds_toArray, List.set_cons_zero, List.set_cons_succ]
          refine wpAnyH_take (i := 10) (v := _) rfl (by kernel_rfl) (by kernel_rfl) (by kernel_rfl) (fun _ _ _ h => h) (yields_build (by rfl) rfl s c x2 x3 r4 r5 r6 r7 r8 r9 r10 r11 r12 r13 r14 r15 r16 r17 r18 r19 _ gh _ n c vo vl vc rfl rfl rfl rfl) hHeld ?_
          simp only [Act.put, List.getElem_toArray, List.getElem_cons_zero, List.getElem_cons_succ, List.setIfInBounds_toArray, List.set_cons_zero, List.set_cons_succ]
          refine wpAnyH_ready (rs := [11]) (by kernel_rfl) (by simp) ?_
          refine AllReadyH.cons (i := 11) rfl (fun K hK => ?_) AllReadyH.nil
          refine step_box rfl (.tmp 19) rfl _ rfl ?_
          intro w4 hSt hb4
          refine hK.out _ _ ⟨blk_up hHeld.1 hb4, hHeld.2.trans (hb4.mono hHeld.2.size)⟩ (fun hHeld => ?_)
          clear hK
          try simp only [Act.put, List.getElem_toArray, List.getElem_cons_zero, List.getElem_cons_succ, List.setIfInBounds_toArray, List.set_cons_zero, List.set_cons_succ]
          refine wpAnyH_take (i := 12) (v := .pointer (some ⟨w3.heap.size, 0, none⟩)) rfl (by kernel_rfl) (by kernel_rfl) (by kernel_rfl) (fun _ _ _ h => h) (Or.inl ⟨by rfl, fun w' _ => by go_simp⟩) hHeld ?_
          simp only [Act.put, List.getElem_toArray, List.getElem_cons_zero, List.getElem_cons_succ, List.setIfInBounds_toArray, List.set_cons_zero, List.set_cons_succ]
          refine wpAnyH_done (by kernel_rfl) ?_ _
          refine NoPanic.normal ?_
          have q1 := hb1.size
          have q2 := hb2.size
          have q3 := hb3.size
          simp only [World.size_drew, World.size_alloc] at q1
          try simp only [World.size_drew, World.size_alloc] at hg1
          go_wp2
          go_meet
          case rel =>
            exact ⟨_, _, _, _, _, rfl, hSt, hHeld.1, (blk_up (blk_up (blk_up hV hb2) hb3) hb4), (blk_up hJ hb4), (blk_up (blk_up hg2 hb3) hb4), (VS.low (VS.up (VS.up hg3 hb3) hb4) (by omega)), ⟨by omega, by omega, by omega, by omega⟩, hHeld.2⟩
      · refine step_one rfl rfl ?_
        intro w2 hJ hb2
        try simp only [World.size_drew, World.size_alloc] at hJ
        refine hK.out _ _ ⟨blk_up hHeld.1 hb2, hHeld.2.trans (hb2.mono hHeld.2.size)⟩ (fun hHeld => ?_)
        clear hK
        try simp only [Act.put, List.getElem_toArray, List.getElem_cons_zero, List.getElem_cons_succ, List.setIfInBounds_toArray, List.set_cons_zero, List.set_cons_succ]
        refine wpAnyH_ready (rs := [8]) (by kernel_rfl) (by simp) ?_
        refine AllReadyH.cons (i := 8) rfl (fun K hK => ?_) AllReadyH.nil
        · go_simp
          refine (nte_all s c x2 x3 [r4, r5, r6, r7, r8, r9, r10, r11, r12, r13, r14, r15, r16, r17, r18, r19] n hn hc _).mono ?_
          rintro e w3 ⟨gh, vs, rfl, hg1, hg2, hg3, hb3⟩
          obtain ⟨vo, vl, vc, rfl⟩ := hg3.form
          go_wp2_with fail
          refine hK.out _ _ ⟨blk_up hHeld.1 hb3, hHeld.2.trans (hb3.mono hHeld.2.size)⟩ (fun hHeld => ?_)
          clear hK
          try simp only [Act.put, List.getElem_toArray, List.getElem_cons_zero, List.getElem_cons_succ, List.setIfInBounds_toArray, List.set_cons_zero, List.set_cons_succ]
          refine wpAnyH_take (i := 10) (v := _) rfl (by kernel_rfl) (by kernel_rfl) (by kernel_rfl) (fun _ _ _ h => h) (yields_build (by rfl) rfl s c x2 x3 r4 r5 r6 r7 r8 r9 r10 r11 r12 r13 r14 r15 r16 r17 r18 r19 _ gh _ n c vo vl vc rfl rfl rfl rfl) hHeld ?_
          simp only [Act.put, List.getElem_toArray, List.getElem_cons_zero, List.getElem_cons_succ, List.setIfInBounds_toArray, List.set_cons_zero, List.set_cons_succ]
          refine wpAnyH_ready (rs := [11]) (by kernel_rfl) (by simp) ?_
          refine AllReadyH.cons (i := 11) rfl (fun K hK => ?_) AllReadyH.nil
          refine step_box rfl (.tmp 19) rfl _ rfl ?_
          intro w4 hSt hb4
          refine hK.out _ _ ⟨blk_up hHeld.1 hb4, hHeld.2.trans (hb4.mono hHeld.2.size)⟩ (fun hHeld => ?_)
          clear hK
          try simp only [Act.put, List.getElem_toArray, List.getElem_cons_zero, List.getElem_cons_succ, List.setIfInBounds_toArray, List.set_cons_zero, List.set_cons_succ]
          refine wpAnyH_take (i := 12) (v := .pointer (some ⟨w3.heap.size, 0, none⟩)) rfl (by kernel_rfl) (by kernel_rfl) (by kernel_rfl) (fun _ _ _ h => h) (Or.inl ⟨by rfl, fun w' _ => by go_simp⟩) hHeld ?_
          simp only [Act.put, List.getElem_toArray, List.getElem_cons_zero, List.getElem_cons_succ, List.setIfInBounds_toArray, List.set_cons_zero, List.set_cons_succ]
          refine wpAnyH_done (by kernel_rfl) ?_ _
          refine NoPanic.normal ?_
          have q1 := hb1.size
          have q2 := hb2.size
          have q3 := hb3.size
          simp only [World.size_drew, World.size_alloc] at q1
          try simp only [World.size_drew, World.size_alloc] at hg1
          go_wp2
          go_meet
          case rel =>
            exact ⟨_, _, _, _, _, rfl, hSt, hHeld.1, (blk_up (blk_up (blk_up hV hb2) hb3) hb4), (blk_up (blk_up hJ hb3) hb4), (blk_up hg2 hb4), (VS.low (VS.up hg3 hb4) (by omega)), ⟨by omega, by omega, by omega, by omega⟩, hHeld.2⟩
    · go_simp
      refine (nte_all s c x2 x3 [r4, r5, r6, r7, r8, r9, r10, r11, r12, r13, r14, r15, r16, r17, r18, r19] n hn hc _).mono ?_
      rintro e w1 ⟨gh, vs, rfl, hg1, hg2, hg3, hb1⟩
      obtain ⟨vo, vl, vc, rfl⟩ := hg3.form
      go_wp2_with fail
      refine hK.out _ _ ⟨blk_up hHeld.1 hb1, hHeld.2.trans (hb1.mono hHeld.2.size)⟩ (fun hHeld => ?_)
      clear hK
      try simp only [Act.put, List.getElem_toArray, List.getElem_cons_zero, List.getElem_cons_succ, List.setIfInBounds_toArray, List.set_cons_zero, List.set_cons_succ]
      refine wpAnyH_ready (rs := [3, 9]) (by kernel_rfl) (by simp) ?_
      refine AllReadyH.cons (i := 3) rfl (fun K hK => ?_) (AllReadyH.cons (i := 9) rfl (fun K hK => ?_) AllReadyH.nil)
      · refine step_make rfl (.tmp 11) (.tmp 11) 56 rfl 65 i0 _ 7 Yba.underlying56 hi hz0 hz1 .i64 .i64 _ _ n rfl rfl rfl rfl (by rw [hz2]; omega) (by omega) ?_
        intro w2 hV hb2
        try simp only [World.size_drew, World.size_alloc] at hV
        refine hK.out _ _ ⟨blk_up hHeld.1 hb2, hHeld.2.trans (hb2.mono hHeld.2.size)⟩ (fun hHeld => ?_)
        clear hK
        try simp only [Act.put, List.getElem_toArray, List.getElem_cons_zero, List.getElem_cons_succ, List.setIfInBounds_toArray, List.set_cons_zero, List.set_cons_succ]
        refine wpAnyH_ready (rs := [9]) (by kernel_rfl) (by simp) ?_
        refine AllReadyH.cons (i := 9) rfl (fun K hK => ?_) AllReadyH.nil
        · refine step_one rfl rfl ?_
          intro w3 hJ hb3
          try simp only [World.size_drew, World.size_alloc] at hJ
          refine hK.out _ _ ⟨blk_up hHeld.1 hb3, hHeld.2.trans (hb3.mono hHeld.2.size)⟩ (fun hHeld => ?_)
          clear hK
          try simp only [Act.put, List.getElem_toArray, List.getElem_cons_zero, List.getElem_cons_succ, List.setIfInBounds_toArray, List.set_cons_zero, List.set_cons_succ]
          refine wpAnyH_take (i := 10) (v := _) rfl (by kernel_rfl) (by kernel_rfl) (by kernel_rfl) (fun _ _ _ h => h) (yields_build (by rfl) rfl s c x2 x3 r4 r5 r6 r7 r8 r9 r10 r11 r12 r13 r14 r15 r16 r17 r18 r19 _ gh _ n c vo vl vc rfl rfl rfl rfl) hHeld ?_
          simp only [Act.put, List.getElem_toArray, List.getElem_cons_zero, List.getElem_cons_succ, List.setIfInBounds_toArray, List.set_cons_zero, List.set_cons_succ]
          refine wpAnyH_ready (rs := [11]) (by kernel_rfl) (by simp) ?_
          refine AllReadyH.cons (i := 11) rfl (fun K hK => ?_) AllReadyH.nil
          refine step_box rfl (.tmp 19) rfl _ rfl ?_
          intro w4 hSt hb4
          refine hK.out _ _ ⟨blk_up hHeld.1 hb4, hHeld.2.trans (hb4.mono hHeld.2.size)⟩ (fun hHeld => ?_)
          clear hK
          try simp only [Act.put, List.getElem_toArray, List.getElem_cons_zero, List.getElem_cons_succ, List.setIfInBounds_toArray, List.set_cons_zero, List.set_cons_succ]
          refine wpAnyH_take (i := 12) (v := .pointer (some ⟨w3.heap.size, 0, none⟩)) rfl (by kernel_rfl) (by kernel_rfl) (by kernel_rfl) (fun _ _ _ h => h) (Or.inl ⟨by rfl, fun w' _ => by go_simp⟩) hHeld ?_
          simp only [Act.put, List.getElem_toArray, List.getElem_cons_zero, List.getElem_cons_succ, List.setIfInBounds_toArray, List.set_cons_zero, List.set_cons_succ]
          refine wpAnyH_done (by kernel_rfl) ?_ _
          refine NoPanic.normal ?_
          have q1 := hb1.size
          have q2 := hb2.size
          have q3 := hb3.size
          simp only [World.size_drew, World.size_alloc] at q1
          try simp only [World.size_drew, World.size_alloc] at hg1
          go_wp2
          go_meet
          case rel =>
            exact ⟨_, _, _, _, _, rfl, hSt, hHeld.1, (blk_up (blk_up hV hb3) hb4), (blk_up hJ hb4), (blk_up (blk_up (blk_up hg2 hb2) hb3) hb4), (VS.low (VS.up (VS.up (VS.up hg3 hb2) hb3) hb4) (by simp)), ⟨by omega, by omega, by omega, by omega⟩, hHeld.2⟩
      · refine step_one rfl rfl ?_
        intro w2 hJ hb2
        try simp only [World.size_drew, World.size_alloc] at hJ
        refine hK.out _ _ ⟨blk_up hHeld.1 hb2, hHeld.2.trans (hb2.mono hHeld.2.size)⟩ (fun hHeld => ?_)
        clear hK
        try simp only [Act.put, List.getElem_toArray, List.getElem_cons_zero, List.getElem_cons_succ, List.setIfInBounds_toArray, List.set_cons_zero, List.set_cons_succ]
        refine wpAnyH_ready (rs := [3]) (by kernel_rfl) (by simp) ?_
        refine AllReadyH.cons (i := 3) rfl (fun K hK => ?_) AllReadyH.nil
        · refine step_make rfl (.tmp 11) (.tmp 11) 56 rfl 65 i0 _ 7 Yba.underlying56 hi hz0 hz1 .i64 .i64 _ _ n rfl rfl rfl rfl (by rw [hz2]; omega) (by omega) ?_
          intro w3 hV hb3
          try simp only [World.size_drew, World.size_alloc] at hV
          refine hK.out _ _ ⟨blk_up hHeld.1 hb3, hHeld.2.trans (hb3.mono hHeld.2.size)⟩ (fun hHeld => ?_)
          clear hK
          try simp only [Act.put, List.getElem_toArray, List.getElem_cons_zero, List.getElem_cons_succ, List.setIfInBounds_toArray, List.set_cons_zero, List.set_cons_succ]
          refine wpAnyH_take (i := 10) (v := _) rfl (by kernel_rfl) (by kernel_rfl) (by kernel_rfl) (fun _ _ _ h => h) (yields_build (by rfl) rfl s c x2 x3 r4 r5 r6 r7 r8 r9 r10 r11 r12 r13 r14 r15 r16 r17 r18 r19 _ gh _ n c vo vl vc rfl rfl rfl rfl) hHeld ?_
          simp only [Act.put, List.getElem_toArray, List.getElem_cons_zero, List.getElem_cons_succ, List.setIfInBounds_toArray, List.set_cons_zero, List.set_cons_succ]
          refine wpAnyH_ready (rs := [11]) (by kernel_rfl) (by simp) ?_
          refine AllReadyH.cons (i := 11) rfl (fun K hK => ?_) AllReadyH.nil
          refine step_box rfl (.tmp 19) rfl _ rfl ?_
          intro w4 hSt hb4
          refine hK.out _ _ ⟨blk_up hHeld.1 hb4, hHeld.2.trans (hb4.mono hHeld.2.size)⟩ (fun hHeld => ?_)
          clear hK
          try simp only [Act.put, List.getElem_toArray, List.getElem_cons_zero, List.getElem_cons_succ, List.setIfInBounds_toArray, List.set_cons_zero, List.set_cons_succ]
          refine wpAnyH_take (i := 12) (v := .pointer (some ⟨w3.heap.size, 0, none⟩)) rfl (by kernel_rfl) (by kernel_rfl) (by kernel_rfl) (fun _ _ _ h => h) (Or.inl ⟨by rfl, fun w' _ => by go_simp⟩) hHeld ?_
          simp only [Act.put, List.getElem_toArray, List.getElem_cons_zero, List.getElem_cons_succ, List.setIfInBounds_toArray, List.set_cons_zero, List.set_cons_succ]
          refine wpAnyH_done (by kernel_rfl) ?_ _
          refine NoPanic.normal ?_
          have q1 := hb1.size
          have q2 := hb2.size
          have q3 := hb3.size
          simp only [World.size_drew, World.size_alloc] at q1
          try simp only [World.size_drew, World.size_alloc] at hg1
          go_wp2
          go_meet
          case rel =>
            exact ⟨_, _, _, _, _, rfl, hSt, hHeld.1, (blk_up hV hb4), (blk_up (blk_up hJ hb3) hb4), (blk_up (blk_up (blk_up hg2 hb2) hb3) hb4), (VS.low (VS.up (VS.up (VS.up hg3 hb2) hb3) hb4) (by simp)), ⟨by omega, by omega, by omega, by omega⟩, hHeld.2⟩
    · refine step_one rfl rfl ?_
      intro w1 hJ hb1
      try simp only [World.size_drew, World.size_alloc] at hJ
      refine hK.out _ _ ⟨blk_up hHeld.1 hb1, hHeld.2.trans (hb1.mono hHeld.2.size)⟩ (fun hHeld => ?_)
      clear hK
      try simp only [Act.put, List.getElem_toArray, List.getElem_cons_zero, List.getElem_cons_succ, List.setIfInBounds_toArray, List.set_cons_zero, List.set_cons_succ]
      refine wpAnyH_ready (rs := [3, 8]) (by kernel_rfl) (by simp) ?_
      refine AllReadyH.cons (i := 3) rfl (fun K hK => ?_) (AllReadyH.cons (i := 8) rfl (fun K hK => ?_) AllReadyH.nil)
      · refine step_make rfl (.tmp 11) (.tmp 11) 56 rfl 65 i0 _ 7 Yba.underlying56 hi hz0 hz1 .i64 .i64 _ _ n rfl rfl rfl rfl (by rw [hz2]; omega) (by omega) ?_
        intro w2 hV hb2
        try simp only [World.size_drew, World.size_alloc] at hV
        refine hK.out _ _ ⟨blk_up hHeld.1 hb2, hHeld.2.trans (hb2.mono hHeld.2.size)⟩ (fun hHeld => ?_)
        clear hK
        try simp only [Act.put, List.getElem_toArray, List.getElem_cons_zero, List.getElem_cons_succ, List.setIfInBounds_toArray, List.set_cons_zero, List.set_cons_succ]
        refine wpAnyH_ready (rs := [8]) (by kernel_rfl) (by simp) ?_
        refine AllReadyH.cons (i := 8) rfl (fun K hK => ?_) AllReadyH.nil
        · go_simp
          refine (nte_all s c x2 x3 [r4, r5, r6, r7, r8, r9, r10, r11, r12, r13, r14, r15, r16, r17, r18, r19] n hn hc _).mono ?_
          rintro e w3 ⟨gh, vs, rfl, hg1, hg2, hg3, hb3⟩
          obtain ⟨vo, vl, vc, rfl⟩ := hg3.form
          go_wp2_with fail
          refine hK.out _ _ ⟨blk_up hHeld.1 hb3, hHeld.2.trans (hb3.mono hHeld.2.size)⟩ (fun hHeld => ?_)
          clear hK
          try simp only [Act.put, List.getElem_toArray, List.getElem_cons_zero, List.getElem_cons_succ, List.setIfInBounds_toArray, List.set_cons_zero, List.set_cons_succ]
          refine wpAnyH_take (i := 10) (v := _) rfl (by kernel_rfl) (by kernel_rfl) (by kernel_rfl) (fun _ _ _ h => h) (yields_build (by rfl) rfl s c x2 x3 r4 r5 r6 r7 r8 r9 r10 r11 r12 r13 r14 r15 r16 r17 r18 r19 _ gh _ n c vo vl vc rfl rfl rfl rfl) hHeld ?_
          simp only [Act.put, List.getElem_toArray, List.getElem_cons_zero, List.getElem_cons_succ, List.setIfInBounds_toArray, List.set_cons_zero, List.set_cons_succ]
          refine wpAnyH_ready (rs := [11]) (by kernel_rfl) (by simp) ?_
          refine AllReadyH.cons (i := 11) rfl (fun K hK => ?_) AllReadyH.nil
          refine step_box rfl (.tmp 19) rfl _ rfl ?_
          intro w4 hSt hb4
          refine hK.out _ _ ⟨blk_up hHeld.1 hb4, hHeld.2.trans (hb4.mono hHeld.2.size)⟩ (fun hHeld => ?_)
          clear hK
          try simp only [Act.put, List.getElem_toArray, List.getElem_cons_zero, List.getElem_cons_succ, List.setIfInBounds_toArray, List.set_cons_zero, List.set_cons_succ]
          refine wpAnyH_take (i := 12) (v := .pointer (some ⟨w3.heap.size, 0, none⟩)) rfl (by kernel_rfl) (by kernel_rfl) (by kernel_rfl) (fun _ _ _ h => h) (Or.inl ⟨by rfl, fun w' _ => by go_simp⟩) hHeld ?_
          simp only [Act.put, List.getElem_toArray, List.getElem_cons_zero, List.getElem_cons_succ, List.setIfInBounds_toArray, List.set_cons_zero, List.set_cons_succ]
          refine wpAnyH_done (by kernel_rfl) ?_ _
          refine NoPanic.normal ?_
          have q1 := hb1.size
          have q2 := hb2.size
          have q3 := hb3.size
          simp only [World.size_drew, World.size_alloc] at q1
          try simp only [World.size_drew, World.size_alloc] at hg1
          go_wp2
          go_meet
          case rel =>
            exact ⟨_, _, _, _, _, rfl, hSt, hHeld.1, (blk_up (blk_up hV hb3) hb4), (blk_up (blk_up (blk_up hJ hb2) hb3) hb4), (blk_up hg2 hb4), (VS.low (VS.up hg3 hb4) (by omega)), ⟨by omega, by omega, by omega, by omega⟩, hHeld.2⟩
      · go_simp
        refine (nte_all s c x2 x3 [r4, r5, r6, r7, r8, r9, r10, r11, r12, r13, r14, r15, r16, r17, r18, r19] n hn hc _).mono ?_
        rintro e w2 ⟨gh, vs, rfl, hg1, hg2, hg3, hb2⟩
        obtain ⟨vo, vl, vc, rfl⟩ := hg3.form
        go_wp2_with fail
        refine hK.out _ _ ⟨blk_up hHeld.1 hb2, hHeld.2.trans (hb2.mono hHeld.2.size)⟩ (fun hHeld => ?_)
        clear hK
        try simp only [Act.put, List.getElem_toArray, List.getElem_cons_zero, List.getElem_cons_succ, List.setIfInBounds_toArray, List.set_cons_zero, List.set_cons_succ]
        refine wpAnyH_ready (rs := [3]) (by kernel_rfl) (by simp) ?_
        refine AllReadyH.cons (i := 3) rfl (fun K hK => ?_) AllReadyH.nil
        · refine step_make rfl (.tmp 11) (.tmp 11) 56 rfl 65 i0 _ 7 Yba.underlying56 hi hz0 hz1 .i64 .i64 _ _ n rfl rfl rfl rfl (by rw [hz2]; omega) (by omega) ?_
          intro w3 hV hb3
          try simp only [World.size_drew, World.size_alloc] at hV
          refine hK.out _ _ ⟨blk_up hHeld.1 hb3, hHeld.2.trans (hb3.mono hHeld.2.size)⟩ (fun hHeld => ?_)
          clear hK
          try simp only [Act.put, List.getElem_toArray, List.getElem_cons_zero, List.getElem_cons_succ, List.setIfInBounds_toArray, List.set_cons_zero, List.set_cons_succ]
          refine wpAnyH_take (i := 10) (v := _) rfl (by kernel_rfl) (by kernel_rfl) (by kernel_rfl) (fun _ _ _ h => h) (yields_build (by rfl) rfl s c x2 x3 r4 r5 r6 r7 r8 r9 r10 r11 r12 r13 r14 r15 r16 r17 r18 r19 _ gh _ n c vo vl vc rfl rfl rfl rfl) hHeld ?_
          simp only [Act.put, List.getElem_toArray, List.getElem_cons_zero, List.getElem_cons_succ, List.setIfInBounds_toArray, List.set_cons_zero, List.set_cons_succ]
          refine wpAnyH_ready (rs := [11]) (by kernel_rfl) (by simp) ?_
          refine AllReadyH.cons (i := 11) rfl (fun K hK => ?_) AllReadyH.nil
          refine step_box rfl (.tmp 19) rfl _ rfl ?_
          intro w4 hSt hb4
          refine hK.out _ _ ⟨blk_up hHeld.1 hb4, hHeld.2.trans (hb4.mono hHeld.2.size)⟩ (fun hHeld => ?_)
          clear hK
          try simp only [Act.put, List.getElem_toArray, List.getElem_cons_zero, List.getElem_cons_succ, List.setIfInBounds_toArray, List.set_cons_zero, List.set_cons_succ]
          refine wpAnyH_take (i := 12) (v := .pointer (some ⟨w3.heap.size, 0, none⟩)) rfl (by kernel_rfl) (by kernel_rfl) (by kernel_rfl) (fun _ _ _ h => h) (Or.inl ⟨by rfl, fun w' _ => by go_simp⟩) hHeld ?_
          simp only [Act.put, List.getElem_toArray, List.getElem_cons_zero, List.getElem_cons_succ, List.setIfInBounds_toArray, List.set_cons_zero, List.set_cons_succ]
          refine wpAnyH_done (by kernel_rfl) ?_ _
          refine NoPanic.normal ?_
          have q1 := hb1.size
          have q2 := hb2.size
          have q3 := hb3.size
          simp only [World.size_drew, World.size_alloc] at q1
          try simp only [World.size_drew, World.size_alloc] at hg1
          go_wp2
          go_meet
          case rel =>
            exact ⟨_, _, _, _, _, rfl, hSt, hHeld.1, (blk_up hV hb4), (blk_up (blk_up (blk_up hJ hb2) hb3) hb4), (blk_up (blk_up hg2 hb3) hb4), (VS.low (VS.up (VS.up hg3 hb3) hb4) (by omega)), ⟨by omega, by omega, by omega, by omega⟩, hHeld.2⟩

end Go.Proofs.Ybulkanzs
