/-
  LawS1981BChainState: the walk.
-/
import Derived.Test.YbulkanzsVal
namespace Go.Proofs.Ybulkanzs
open Go.RowKit YbulkanzsLaws
set_option linter.unusedSimpArgs false
set_option linter.unusedVariables false

set_option maxHeartbeats 400000 in
theorem cs_big (q : Value) (ao : Option Addr) (n cap : Nat) (cs : Array Value) (hq : q = .agg cs) (w : World) (hl : 1024 < n) (hm : n ≤ 9223372036854775807) :
    Calls Yba.prog 5 #[q, .slice ao n cap] w fun e w' => e = .returned (.bool true) ∧ Below w.heap.size w w' := by
  subst hq
  go_enter Yba.func5, Yba.ntmps5
  go_wp2
  go_ret
  exact ⟨rfl, (Below.refl _ _).alloc (Nat.le_refl _) _⟩

theorem VS.gen {w' : World} {B n : Nat} {vs : Value} (h : VS w' B vs n) : ∃ vo vc, vs = .slice vo n vc ∧ (0 < n → ∃ gv row, vo = some ⟨gv, 0, none⟩ ∧ B ≤ gv ∧ w'.heap[gv]? = some (.cells row 68 (0, 0)) ∧ ∀ j, j < n → row[j * 3]? = some (.int .u8 0) ∧ row[j * 3 + 1]? = some (.bool false) ∧ row[j * 3 + 2]? = some (.bool false)) := by
  rcases h with ⟨h0, h⟩ | ⟨gv, cap, row, h1, h2, h3, h4⟩
  · subst h0
    exact ⟨_, _, h, fun h => absurd h (Nat.lt_irrefl _)⟩
  · exact ⟨_, _, h1, fun _ => ⟨gv, row, rfl, h2, h3, h4⟩⟩


set_option maxHeartbeats 1000000 in
set_option maxRecDepth 20000 in
theorem cs_small (s : ByteArray) (x1 x2 x3 : Int) (y4 y5 y6 y7 y8 y9 y10 y11 y12 y13 y14 y15 y16 y17 y18 y19 : Int) (zs : List Int) (n : Nat) (hn : n ≤ 1024) (ao : Option Addr) (cap : Nat) (w : World) (b1 : 0 ≤ x1) (b3 : 0 ≤ x3) (b4 : x3 ≤ 18446744073709551615)
    (hao : 0 < n → ∃ b off, ao = some ⟨b, off, none⟩ ∧ b < w.heap.size ∧ ∀ j, j < n → w.cell? ⟨b, off + j, none⟩ = some (.int .u64 (zs.getD j 0)))
    (hz : ∀ j, 0 ≤ zs.getD j 0 ∧ zs.getD j 0 ≤ 18446744073709551615) :
    Calls Yba.prog 5 #[.agg (pcs s x1 x2 x3 [.int .u64 y4, .int .u64 y5, .int .u64 y6, .int .u64 y7, .int .u64 y8, .int .u64 y9, .int .u64 y10, .int .u64 y11, .int .u64 y12, .int .u64 y13, .int .u64 y14, .int .u64 y15, .int .u64 y16, .int .u64 y17, .int .u64 y18, .int .u64 y19]).toArray, .slice ao n cap] w fun e w' => e = .returned (.bool true) ∧ Below w.heap.size w w' := by
  obtain ⟨c, hc⟩ : ∃ c : Nat, x1 % 65 = c := ⟨(x1 % 65).toNat, by omega⟩
  have hc64 : c ≤ 64 := by omega
  obtain ⟨y3, hy3⟩ : ∃ y3, y3 = if x3 = 0 then 1 else x3 := ⟨_, rfl⟩
  have hy3p : 0 < y3 := by rw [hy3]; split <;> omega
  have hy3m : y3 ≤ 18446744073709551615 := by rw [hy3]; split <;> omega
  have HC : Hid (x1 % 65 = c) := hc
  have HY : Hid (y3 = if x3 = 0 then 1 else x3) := hy3
  have hone : ∀ v ∈ ([.int .u64 y4, .int .u64 y5, .int .u64 y6, .int .u64 y7, .int .u64 y8, .int .u64 y9, .int .u64 y10, .int .u64 y11, .int .u64 y12, .int .u64 y13, .int .u64 y14, .int .u64 y15, .int .u64 y16, .int .u64 y17, .int .u64 y18, .int .u64 y19] : List Value), v.oneCell' = true := ones [y4, y5, y6, y7, y8, y9, y10, y11, y12, y13, y14, y15, y16, y17, y18, y19]
  have HO : Hid (∀ v ∈ ([.int .u64 y4, .int .u64 y5, .int .u64 y6, .int .u64 y7, .int .u64 y8, .int .u64 y9, .int .u64 y10, .int .u64 y11, .int .u64 y12, .int .u64 y13, .int .u64 y14, .int .u64 y15, .int .u64 y16, .int .u64 y17, .int .u64 y18, .int .u64 y19] : List Value), v.oneCell' = true) := hone
  clear hc hy3 hone
  go_enter Yba.func5, Yba.ntmps5
  go_wp2_with (first
    | (refine wpList_load_at rfl 53 (.tmp 2) rfl w.heap.size (pcs s x1 x2 x3 [.int .u64 y4, .int .u64 y5, .int .u64 y6, .int .u64 y7, .int .u64 y8, .int .u64 y9, .int .u64 y10, .int .u64 y11, .int .u64 y12, .int .u64 y13, .int .u64 y14, .int .u64 y15, .int .u64 y16, .int .u64 y17, .int .u64 y18, .int .u64 y19]) _ rfl (fun j => by go_simp) Yba.underlying53 rfl Yba.size53 ?_)
    | (go_at_call 12; refine (preset_all s x1 x2 x3 [.int .u64 y4, .int .u64 y5, .int .u64 y6, .int .u64 y7, .int .u64 y8, .int .u64 y9, .int .u64 y10, .int .u64 y11, .int .u64 y12, .int .u64 y13, .int .u64 y14, .int .u64 y15, .int .u64 y16, .int .u64 y17, .int .u64 y18, .int .u64 y19] rfl HO.out _ b1 b3 c HC.out y3 HY.out).mono ?_; rintro e w1 ⟨rfl, hb1⟩)
    | (refine wpList_store_last rfl 53 (.tmp 5) (.tmp 14) rfl _ _ _ (pcs s c x2 y3 [.int .u64 y4, .int .u64 y5, .int .u64 y6, .int .u64 y7, .int .u64 y8, .int .u64 y9, .int .u64 y10, .int .u64 y11, .int .u64 y12, .int .u64 y13, .int .u64 y14, .int .u64 y15, .int .u64 y16, .int .u64 y17, .int .u64 y18, .int .u64 y19]).toArray rfl rfl rfl rfl Yba.size53 rfl (pcs_one _ _ _ _ HO.out) ?_)
    | (refine wpList_load_at rfl 53 (.tmp 5) rfl w1.heap.size (pcs s c x2 y3 [.int .u64 y4, .int .u64 y5, .int .u64 y6, .int .u64 y7, .int .u64 y8, .int .u64 y9, .int .u64 y10, .int .u64 y11, .int .u64 y12, .int .u64 y13, .int .u64 y14, .int .u64 y15, .int .u64 y16, .int .u64 y17, .int .u64 y18, .int .u64 y19]) _ rfl (fun j => by go_simp) Yba.underlying53 rfl Yba.size53 ?_))
  refine (gen_all s c x2 y3 (.int .u64 y4) (.int .u64 y5) (.int .u64 y6) (.int .u64 y7) (.int .u64 y8) (.int .u64 y9) (.int .u64 y10) (.int .u64 y11) (.int .u64 y12) (.int .u64 y13) (.int .u64 y14) (.int .u64 y15) (.int .u64 y16) (.int .u64 y17) (.int .u64 y18) (.int .u64 y19) zs n hn hc64 hy3p ao cap _ (hao_up hao hb1 _) hz).mono ?_
  rintro e w2 ⟨p, rfl, wc, St, V, J, gh, vs, hg, hn1, hn2, hn3, hn4, hL⟩
  have hgp := hg.gp
  subst hgp
  obtain ⟨vo, vc, rfl, hvs⟩ := hg.gvs.gen
  have hS2 := (hL.kKeep St (lt_of_block hg.gst) (fun e => hn1 e.symm)).trans hg.gst
  have k21 : w2.cell? ⟨St, 21, none⟩ = some (.int .u64 0) := (cells_block hS2 21).trans rfl
  have k22 : w2.cell? ⟨St, 22, none⟩ = some (.int .u64 0) := (cells_block hS2 22).trans rfl
  have k23 : w2.cell? ⟨St, 23, none⟩ = some (.int .u64 0) := (cells_block hS2 23).trans rfl
  have k24 : w2.cell? ⟨St, 24, none⟩ = some (.slice none 0 0) := (cells_block hS2 24).trans rfl
  have k25 : w2.cell? ⟨St, 25, none⟩ = some (.int .u64 0) := (cells_block hS2 25).trans rfl
  have k26 : w2.cell? ⟨St, 26, none⟩ = some (.int .u64 0) := (cells_block hS2 26).trans rfl
  have k27 : w2.cell? ⟨St, 27, none⟩ = some (.slice none 0 0) := (cells_block hS2 27).trans rfl
  have k28 : w2.cell? ⟨St, 28, none⟩ = some (.int .u64 0) := (cells_block hS2 28).trans rfl
  have k29 : w2.cell? ⟨St, 29, none⟩ = some (.slice (some ⟨gh, 0, none⟩) c c) := (cells_block hS2 29).trans rfl
  have k30 : w2.cell? ⟨St, 30, none⟩ = some (.int .u64 0) := (cells_block hS2 30).trans rfl
  have k31 : w2.cell? ⟨St, 31, none⟩ = some (.int .u64 0) := (cells_block hS2 31).trans rfl
  have k32 : w2.cell? ⟨St, 32, none⟩ = some (.slice vo n vc) := (cells_block hS2 32).trans rfl
  have k33 : w2.cell? ⟨St, 33, none⟩ = some (.slice (some ⟨J, 0, none⟩) 1 1) := (cells_block hS2 33).trans rfl
  have k34 : w2.cell? ⟨St, 34, none⟩ = some (.int .u64 0) := (cells_block hS2 34).trans rfl
  have k35 : w2.cell? ⟨St, 35, none⟩ = some (.int .u64 0) := (cells_block hS2 35).trans rfl
  have k36 : w2.cell? ⟨St, 36, none⟩ = some (.int .u64 0) := (cells_block hS2 36).trans rfl
  have k37 : w2.cell? ⟨St, 37, none⟩ = some (.slice none 0 0) := (cells_block hS2 37).trans rfl
  have k38 : w2.cell? ⟨St, 38, none⟩ = some (.int .u64 0) := (cells_block hS2 38).trans rfl
  have k39 : w2.cell? ⟨St, 39, none⟩ = some (.int .u64 0) := (cells_block hS2 39).trans rfl
  have HJ : Hid (w2.heap[J]? = some (.cells #[.int .u64 0] 22 (0, 0))) := (hL.kKeep J (lt_of_block hg.gj) (fun e => hn2 e.symm)).trans hg.gj
  have kJ : w2.cell? ⟨J, 0, none⟩ = some (.int .u64 0) := (cells_block HJ.out 0).trans rfl
  have HH : Hid (w2.heap[gh]? = some (.cells (zrow c).toArray 22 (0, 0))) := (hL.kKeep gh (lt_of_block hg.ghd) (fun e => hn3 e.symm)).trans hg.ghd
  have hq2 : w2.heap[w1.heap.size]? = some (.cells (pcs s c x2 y3 [.int .u64 y4, .int .u64 y5, .int .u64 y6, .int .u64 y7, .int .u64 y8, .int .u64 y9, .int .u64 y10, .int .u64 y11, .int .u64 y12, .int .u64 y13, .int .u64 y14, .int .u64 y15, .int .u64 y16, .int .u64 y17, .int .u64 y18, .int .u64 y19]).toArray 53 (0, 0)) := blk_last hL.kBel (by simp) rfl
  have kq : w2.cell? ⟨w1.heap.size, 1, none⟩ = some (.int .u64 (c : Int)) := (cells_block hq2 1).trans rfl
  have hsz : w.heap.size ≤ w1.heap.size ∧ w1.heap.size < w2.heap.size := ⟨by have := hb1.size; simp only [World.size_alloc] at this; omega, lt_of_block hq2⟩
  have HB : Hid (Below w.heap.size w w2) := base_up hb1 hL.kBel
  have HV : Hid (0 < n → ∃ gv row, vo = some ⟨gv, 0, none⟩ ∧ w2.heap[gv]? = some (.cells row 68 (0, 0)) ∧ ∀ j, j < n → row[j * 3]? = some (.int .u8 0) ∧ row[j * 3 + 1]? = some (.bool false) ∧ row[j * 3 + 2]? = some (.bool false)) := fun h0 => by
    obtain ⟨gv, row, hv, hB, hr, hj⟩ := hvs h0
    subst hv
    exact ⟨gv, row, rfl, (hL.kKeep gv (lt_of_block hr) (fun e => hn4 gv vc rfl h0 e.symm)).trans hr, hj⟩
  have hwc : IntKind.u64.wrap (c : Int) = (c : Int) := by rw [IntKind.wrap_u64]; omega
  clear hvs hS2 hq2 hg hL hn1 hn2 hn3 hn4 hao hz hb1
  go_wp2_with fail
  clear k21 k22 k23 k24 k25 k26 k27 k28 k29 k30 k31 k32 k33 k34 k35 k36 k37 k38 k39 kJ kq hwc
  have hghl := lt_of_block HH.out
  go_loop [8] (fun i => ∃ k : Nat, k ≤ c ∧ i = .int .i64 k) (fun i => c - (intOf i).toNat)
  case atStart => exact ⟨0, Nat.zero_le _, rfl⟩
  case round =>
    obtain ⟨k, hk, rfl⟩ := hrel
    by_cases hlt : k < c
    · have hhk : w2.cell? ⟨gh, k, none⟩ = some (.int .u64 0) := (cells_block HH.out k).trans (by simp only [List.getElem?_toArray]; exact zrow_get hlt)
      go_wp2
      go_round
      case rel => exact ⟨k + 1, hlt, by go_num⟩
      case measure => simp [intOf]; omega
    · clear HH hghl
      go_wp2
      go_loop [9] (fun i => ∃ k : Nat, k ≤ n ∧ i = .int .i64 k) (fun i => n - (intOf i).toNat)
      case atStart => exact ⟨0, Nat.zero_le _, rfl⟩
      case round =>
        obtain ⟨m, hm, rfl⟩ := hrel
        by_cases hlm : m < n
        · obtain ⟨gv, row, rfl, hr, hrow⟩ := HV.out (by omega)
          obtain ⟨q0, q1, q2⟩ := hrow m hlm
          have e0 : w2.cell? ⟨gv, m * 3, none⟩ = some (.int .u8 0) := (cells_block hr (m * 3)).trans q0
          have e1 : w2.cell? ⟨gv, m * 3 + 1, none⟩ = some (.bool false) := (cells_block hr (m * 3 + 1)).trans q1
          have e2 : w2.cell? ⟨gv, m * 3 + 2, none⟩ = some (.bool false) := (cells_block hr (m * 3 + 2)).trans q2
          have hgvl := lt_of_block hr
          clear HV hr hrow q0 q1 q2
          go_wp2
          go_round
          case rel => exact ⟨m + 1, hlm, by go_num⟩
          case measure => simp [intOf]; omega
        · clear HV
          go_wp2
          go_ret
          exact ⟨rfl, HB.out.alloc HB.out.size _⟩

end Go.Proofs.Ybulkanzs
