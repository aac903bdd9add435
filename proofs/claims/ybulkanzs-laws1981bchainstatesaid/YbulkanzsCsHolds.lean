/-
  The row of lawS1981BChainStateSpec, proved: for every input the call returns true; both arguments read behind the call as they read before.
-/
import Derived.Test.YbulkanzsCs
import Derived.Test.YbulkanzsOpen
namespace Go.Proofs.Ybulkanzs.lawCs
open Go.ChangeShapes Go.WideShapes Go.ChangeAt Go.RowKit
set_option linter.unusedVariables false

theorem own : ownKnob Yba.prog.godebug = none := by kernel_rfl
theorem laidOut : laidOutB Yba.prog = true := by kernel_rfl

theorem walk (s : ByteArray) (x1 x2 x3 y4 y5 y6 y7 y8 y9 y10 y11 y12 y13 y14 y15 y16 y17 y18 y19 : Int) (zs : List Int) (ao : Option Addr) (n cap : Nat) (w : World) (w1 : (Lit.int .u64 x1).wf = true) (w3 : (Lit.int .u64 x3).wf = true) (hm : n ≤ maxLen)
    (hao : 0 < n → ∃ b off, ao = some ⟨b, off, none⟩ ∧ b < w.heap.size ∧ ∀ j, j < n → w.cell? ⟨b, off + j, none⟩ = some (.int .u64 (zs.getD j 0)))
    (hz : ∀ j, 0 ≤ zs.getD j 0 ∧ zs.getD j 0 ≤ 18446744073709551615) :
    Calls Yba.prog 5 #[.agg (pcs s x1 x2 x3 [.int .u64 y4, .int .u64 y5, .int .u64 y6, .int .u64 y7, .int .u64 y8, .int .u64 y9, .int .u64 y10, .int .u64 y11, .int .u64 y12, .int .u64 y13, .int .u64 y14, .int .u64 y15, .int .u64 y16, .int .u64 y17, .int .u64 y18, .int .u64 y19]).toArray, .slice ao n cap] w fun e w' => e = .returned (.bool true) ∧ Below w.heap.size w w' := by
  unfold maxLen at hm
  obtain ⟨b1, _⟩ := bounds_u64 w1
  obtain ⟨b3, b4⟩ := bounds_u64 w3
  by_cases hl : 1024 < n
  · exact cs_big _ ao n cap _ rfl w hl hm
  · exact cs_small s x1 x2 x3 y4 y5 y6 y7 y8 y9 y10 y11 y12 y13 y14 y15 y16 y17 y18 y19 zs n (by omega) ao cap w b1 b3 b4 hao hz

set_option maxRecDepth 100000 in
theorem lifted (os : Os) (started : os.Started) (H : Type) (enc : TypeId × Value → H) :
    ReturnsInHanded {} Yba.checked os 5 .any (Rows.lawS1981BChainStateSpec.pre6 enc Yba.prog Yba.f5 Rows.lawS1981BChainStateRow.domain false) (Rows.lawS1981BChainStateSpec.post enc Yba.prog Yba.f5 false true false false) := by
  refine returnsInHanded_of_change (C := Yba.checked) own started (by kernel_rfl) Yba.func5
    (ChangeSpec.witness6 (enc := enc) (C := Yba.checked) false ⟨#[], #[.agg #[.string ByteArray.empty, .int .u64 0, .int .u64 0, .int .u64 0, .int .u64 0, .int .u64 0, .int .u64 0, .int .u64 0, .int .u64 0, .int .u64 0, .int .u64 0, .int .u64 0, .int .u64 0, .int .u64 0, .int .u64 0, .int .u64 0, .int .u64 0, .int .u64 0, .int .u64 0, .int .u64 0], .slice none 0 0], []⟩ 8 (by kernel_rfl) (by kernel_rfl) (by kernel_rfl) (by kernel_rfl)) ?_
  intro W base args ds gs before hval0 hW hcnd _
  have hval : ∀ (j : Nat) t v, Yba.f5.params[j]? = some t → args[j]? = some v → Value.okWide Yba.prog W .any base t v := hval0
  have hW' := hW
  obtain ⟨p, q, hA0, hV, rfl, hfz, hnd⟩ := hW
  have hA : DataW.TrodAll enc Yba.prog W 0 (fun _ => true) true Yba.f5.params.toList args.toList ds p := hA0
  rw [Yba.params5] at hA hval
  obtain ⟨v0, vs0, d0, ds0, p0, q0, hargs, rfl, rfl, h0, r0⟩ := trodAll_cons hA
  obtain ⟨v1, vs1, d1, ds1, p1, q1, rfl, rfl, rfl, h1, r1⟩ := trodAll_cons r0
  obtain ⟨rfl, rfl, rfl⟩ := trodAll_nil r1
  obtain rfl : args = #[v0, v1] := by cases args; simp_all
  obtain ⟨rfl, rfl⟩ := trodVars_none hV
  obtain ⟨s, x1, x2, x3, y4, y5, y6, y7, y8, y9, y10, y11, y12, y13, y14, y15, y16, y17, y18, y19, rfl, w1, w2, w3, w4, w5, w6, w7, w8, w9, w10, w11, w12, w13, w14, w15, w16, w17, w18, w19⟩ := open_preset (hval 0 53 v0 rfl rfl) h0
  obtain ⟨ao, len, cap, rfl⟩ := okWide_slice Yba.underlying23 (hval 1 23 v1 rfl rfl)
  have h1k := h1
  obtain ⟨fuel, hf⟩ := h1
  clear hA0 hval0
  have hlt0 : ∀ x ∈ p0, x.block < W.heap.size := fun x hx => by simpa using hW'.lt x (by simp [hx])
  have hlt1 : ∀ x ∈ p1, x.block < W.heap.size := fun x hx => by simpa using hW'.lt x (by simp [hx])
  have fin : ∀ W', Below W.heap.size W W' → Rows.lawS1981BChainStateSpec.post enc Yba.checked.prog Yba.f5 false true false false W #[.agg (pcs s x1 x2 x3 [.int .u64 y4, .int .u64 y5, .int .u64 y6, .int .u64 y7, .int .u64 y8, .int .u64 y9, .int .u64 y10, .int .u64 y11, .int .u64 y12, .int .u64 y13, .int .u64 y14, .int .u64 y15, .int .u64 y16, .int .u64 y17, .int .u64 y18, .int .u64 y19]).toArray, .slice ao len cap] (.bool true) W' := by
    intro W' hnx
    refine ⟨_, _, _, [] ++ [], p0 ++ (p1 ++ []), [], hW', ?_, ?_, rfl, hnx.frame _, fun h => by cases h⟩
    · exact trodAll_cons_mk (shut_bool Yba.underlying4 true) trodAll_mk0
    · exact trodAll_cons_mk (Below.trod laidOut (by kernel_rfl) (of_decide_eq_true (by kernel_rfl)) h0 hnx hlt0) (trodAll_cons_mk (Below.trod laidOut (by kernel_rfl) (of_decide_eq_true (by kernel_rfl)) h1k hnx hlt1) trodAll_mk0)
  rcases open_ints Yba.underlying23 Yba.underlying22 Yba.cells22 hf with ⟨hcs, hx⟩ | ⟨a, len', cap', zs, hcs, _, hl, hm, hz, hx, hcell, hwz⟩
  · simp [Value.cells] at hcs
    obtain ⟨rfl, rfl, rfl⟩ := hcs
    refine (walk s x1 x2 x3 y4 y5 y6 y7 y8 y9 y10 y11 y12 y13 y14 y15 y16 y17 y18 y19 [] none 0 0 W w1 w3 (Nat.zero_le _) (fun h => absurd h (Nat.lt_irrefl _)) (fun j => by simp)).mono fun e W' ⟨he, hnx⟩ => ?_
    subst he
    exact ⟨_, rfl, fin W' hnx⟩
  · simp [Value.cells] at hcs
    obtain ⟨rfl, rfl, rfl⟩ := hcs
    simp only [Prod.mk.injEq] at hx
    obtain ⟨_, hp⟩ := hx
    simp only [if_true] at hz
    have hmem : 0 < len → ∃ b off, some a = some ⟨b, off, none⟩ ∧ b < W.heap.size ∧ ∀ j, j < len → W.cell? ⟨b, off + j, none⟩ = some (.int .u64 (zs.getD j 0)) := by
      intro hpos
      obtain ⟨b, off, spot⟩ := a
      have hspot : spot = none := by simpa [Addr.add] using World.cell?_spot (hcell 0 (by omega))
      subst hspot
      refine ⟨b, off, rfl, hlt1 (.cell b off) (by rw [hp]; exact MemPlace.mem_row.2 ⟨0, by omega, by simp⟩), fun j hj => ?_⟩
      rw [← add_plain]
      exact hcell j (by omega)
    have hbd : ∀ j, 0 ≤ zs.getD j 0 ∧ zs.getD j 0 ≤ 18446744073709551615 := fun j => by
      by_cases hj : j < zs.length
      · have := bounds_u64 (hwz zs[j] (List.getElem_mem hj))
        simpa [List.getD, hj] using this
      · simp [List.getD, List.getElem?_eq_none (by omega : zs.length ≤ j)]
    refine (walk s x1 x2 x3 y4 y5 y6 y7 y8 y9 y10 y11 y12 y13 y14 y15 y16 y17 y18 y19 zs (some a) len cap W w1 w3 (by omega) hmem hbd).mono fun e W' ⟨he, hnx⟩ => ?_
    subst he
    exact ⟨_, rfl, fin W' hnx⟩

theorem over : Rows.lawS1981BChainStateRow.holds Yba.pinned (OpenSpec.ofChange Rows.lawS1981BChainStateSpec) :=
  OpenClaim.holds_of_wide 5 Yba.f5 rfl rfl rfl rfl rfl rfl rfl ⟨rfl, rfl, rfl, rfl, rfl⟩ rfl rfl rfl rfl rfl (by kernel_rfl) Yba.func5 (by kernel_rfl)
    (of_decide_eq_true (by kernel_rfl)) (by unfold Func.isWrapper; first | (rw [if_pos (by decide +kernel)]; kernel_rfl) | (rw [if_neg (by decide +kernel)]; exact ⟨rfl, rfl⟩))
    (fun os started H enc _ => lifted os started H enc)

end Go.Proofs.Ybulkanzs.lawCs

namespace Go.Proofs.Ybulkanzs
theorem chainStateHolds : Rows.LawS1981BChainStateSaid := lawCs.over
#print axioms chainStateHolds
end Go.Proofs.Ybulkanzs
