/-
  The row of lawS1984CStepsSpec, proved: for every input the call returns true; all six arguments read behind the call as they read before.
-/
import Derived.Test.YbulkaobiLaw
import Derived.Test.YbulkaobiOpen
namespace Go.Proofs.Ybulkaobi.lawSteps
open Go.ChangeShapes Go.WideShapes Go.ChangeAt Go.RowKit
set_option linter.unusedVariables false

theorem own : ownKnob Yba.prog.godebug = none := by kernel_rfl
theorem laidOut : laidOutB Yba.prog = true := by kernel_rfl

theorem range_get (zs : Nat → Int) (n j : Nat) (h : j < n) : ((List.range n).map zs).getD j 0 = zs j := by
  simp [List.getD, h]

theorem walk (ao : Option Addr) (nc c0 : Nat) (zs : Nat → Int) (iu : Int) (mo : Option Addr) (nm mc : Nat) (F : Nat → Int) (D : Nat → Value) (bo : Option Addr) (nb bc : Nat) (bz : Nat → Int) (inp : Int) (po : Option Addr) (pn pc : Nat) (w : World) (wu : (Lit.int .u64 iu).wf = true) (wi : (Lit.int .i32 inp).wf = true)
    (hcor : 0 < nc → ∃ b off, ao = some ⟨b, off, none⟩ ∧ ∀ j, j < nc → w.cell? ⟨b, off + j, none⟩ = some (.int .i64 (zs j))) (hM : Msgs w mo nm F D)
    (hB : 0 < nb → ∃ b off, bo = some ⟨b, off, none⟩ ∧ ∀ j, j < nb → w.cell? ⟨b, off + j, none⟩ = some (.int .i32 (bz j))) (hBw : ∀ j, j < nb → (Lit.int .i32 (bz j)).wf = true) (hP : RowAt w .i64 po pn) :
    Calls Yba.prog 5 #[.slice ao nc c0, .int .u64 iu, .slice mo nm mc, .slice bo nb bc, .int .i32 inp, .slice po pn pc] w fun e w' => e = .returned (.bool true) ∧ Below w.heap.size w w' := by
  obtain ⟨u1, u2⟩ := bounds_u64 wu
  obtain ⟨i1, i2⟩ := bounds_i32 wi
  by_cases hbig : 1024 < nc ∨ 1024 < nm ∨ 1024 < nb ∨ 1024 < pn ∨ nc = 0
  · refine (law_big ao mo bo po nc c0 nm mc nb bc pn pc iu inp w hbig).mono ?_
    rintro e w' ⟨rfl, rfl⟩
    exact ⟨rfl, Below.refl _ _⟩
  · obtain ⟨b, off, rfl, hc⟩ := hcor (by omega)
    refine law_any b off c0 nc ((List.range nc).map zs) (by simp) (by omega) (by omega) iu u1 u2 mo nm mc F D (by omega) bo nb bc bz (by omega) inp i1 i2 po pn pc (by omega) w (fun j hj => by rw [range_get zs nc j hj]; exact hc j hj) hM (fun hn => ?_) hP
    obtain ⟨b', off', h1, h2⟩ := hB hn
    exact ⟨b', off', h1, fun j hj => ⟨h2 j hj, (bounds_i32 (hBw j hj)).1, (bounds_i32 (hBw j hj)).2⟩⟩

set_option maxRecDepth 100000 in
theorem lifted (os : Os) (started : os.Started) (H : Type) (enc : TypeId × Value → H) :
    ReturnsInHanded {} Yba.checked os 5 .any (Rows.lawS1984CStepsSpec.pre6 enc Yba.prog Yba.f5 Rows.lawS1984CStepsRow.domain false) (Rows.lawS1984CStepsSpec.post enc Yba.prog Yba.f5 false true false false) := by
  refine returnsInHanded_of_change (C := Yba.checked) own started (by kernel_rfl) Yba.func5
    (ChangeSpec.witness6 (enc := enc) (C := Yba.checked) false ⟨#[], #[.slice none 0 0, .int .u64 0, .slice none 0 0, .slice none 0 0, .int .i32 0, .slice none 0 0], []⟩ 8 (by kernel_rfl) (by kernel_rfl) (by kernel_rfl) (by kernel_rfl)) ?_
  intro W base args ds gs before hval0 hW hcnd _
  have hval : ∀ (j : Nat) t v, Yba.f5.params[j]? = some t → args[j]? = some v → Value.okWide Yba.prog W .any base t v := hval0
  have hW' := hW
  obtain ⟨p, q, hA0, hV, rfl, hfz, hnd⟩ := hW
  have hA : DataW.TrodAll enc Yba.prog W 0 (fun _ => true) true Yba.f5.params.toList args.toList ds p := hA0
  rw [Yba.params5] at hA hval
  obtain ⟨v0, vs0, d0, ds0, p0, q0, hargs, rfl, rfl, h0, r0⟩ := trodAll_cons hA
  obtain ⟨v1, vs1, d1, ds1, p1, q1, rfl, rfl, rfl, h1, r1⟩ := trodAll_cons r0
  obtain ⟨v2, vs2, d2, ds2, p2, q2, rfl, rfl, rfl, h2, r2⟩ := trodAll_cons r1
  obtain ⟨v3, vs3, d3, ds3, p3, q3, rfl, rfl, rfl, h3, r3⟩ := trodAll_cons r2
  obtain ⟨v4, vs4, d4, ds4, p4, q4, rfl, rfl, rfl, h4, r4⟩ := trodAll_cons r3
  obtain ⟨v5, vs5, d5, ds5, p5, q5, rfl, rfl, rfl, h5, r5⟩ := trodAll_cons r4
  obtain ⟨rfl, rfl, rfl⟩ := trodAll_nil r5
  obtain rfl : args = #[v0, v1, v2, v3, v4, v5] := by cases args; simp_all
  obtain ⟨rfl, rfl⟩ := trodVars_none hV
  obtain ⟨a0, n0, c0, rfl⟩ := okWide_slice Yba.underlying29 (hval 0 29 v0 rfl rfl)
  have k1 := h1
  obtain ⟨iu, rfl, _, _, wu⟩ := open_int Yba.underlying30 (hval 1 30 v1 rfl rfl) h1
  obtain ⟨a2, n2, c2, rfl⟩ := okWide_slice Yba.underlying31 (hval 2 31 v2 rfl rfl)
  obtain ⟨a3, n3, c3, rfl⟩ := okWide_slice Yba.underlying32 (hval 3 32 v3 rfl rfl)
  have k4 := h4
  obtain ⟨inp, rfl, _, _, wi⟩ := open_int Yba.underlying21 (hval 4 21 v4 rfl rfl) h4
  obtain ⟨a5, n5, c5, rfl⟩ := okWide_slice Yba.underlying29 (hval 5 29 v5 rfl rfl)
  have k0 := h0
  have k2 := h2
  have k3 := h3
  have k5 := h5
  obtain ⟨f0, hf0⟩ := h0
  obtain ⟨f2, hf2⟩ := h2
  obtain ⟨f3, hf3⟩ := h3
  obtain ⟨f5, hf5⟩ := h5
  clear hA0 hval0
  have hlt0 : ∀ x ∈ p0, x.block < W.heap.size := fun x hx => by simpa using hW'.lt x (by simp [hx])
  have hlt1 : ∀ x ∈ p1, x.block < W.heap.size := fun x hx => by simpa using hW'.lt x (by simp [hx])
  have hlt2 : ∀ x ∈ p2, x.block < W.heap.size := fun x hx => by simpa using hW'.lt x (by simp [hx])
  have hlt3 : ∀ x ∈ p3, x.block < W.heap.size := fun x hx => by simpa using hW'.lt x (by simp [hx])
  have hlt4 : ∀ x ∈ p4, x.block < W.heap.size := fun x hx => by simpa using hW'.lt x (by simp [hx])
  have hlt5 : ∀ x ∈ p5, x.block < W.heap.size := fun x hx => by simpa using hW'.lt x (by simp [hx])
  obtain ⟨_, zs, hz, _⟩ := open_row Yba.underlying29 Yba.underlying3 Yba.cells3 hf0
  obtain ⟨F, D, hM⟩ := open_msgs hf2
  obtain ⟨_, bz, hb, hbw⟩ := open_row Yba.underlying32 Yba.underlying21 Yba.cells21 hf3
  obtain ⟨_, ps, hp, _⟩ := open_row Yba.underlying29 Yba.underlying3 Yba.cells3 hf5
  refine (walk a0 n0 c0 zs iu a2 n2 c2 F D a3 n3 c3 bz inp a5 n5 c5 W wu wi hz hM hb hbw (row_at hp)).mono fun e W' ⟨he, hnx⟩ => ?_
  subst he
  refine ⟨_, rfl, ?_⟩
  refine ⟨_, _, _, [] ++ [], p0 ++ (p1 ++ (p2 ++ (p3 ++ (p4 ++ (p5 ++ []))))), [], hW', ?_, ?_, rfl, hnx.frame _, fun h => by cases h⟩
  · exact trodAll_cons_mk (shut_bool Yba.underlying4 true) trodAll_mk0
  · exact trodAll_cons_mk (Below.trod laidOut (by kernel_rfl) (of_decide_eq_true (by kernel_rfl)) k0 hnx hlt0) (trodAll_cons_mk (Below.trod laidOut (by kernel_rfl) (of_decide_eq_true (by kernel_rfl)) k1 hnx hlt1) (trodAll_cons_mk (Below.trod laidOut (by kernel_rfl) (of_decide_eq_true (by kernel_rfl)) k2 hnx hlt2) (trodAll_cons_mk (Below.trod laidOut (by kernel_rfl) (of_decide_eq_true (by kernel_rfl)) k3 hnx hlt3) (trodAll_cons_mk (Below.trod laidOut (by kernel_rfl) (of_decide_eq_true (by kernel_rfl)) k4 hnx hlt4) (trodAll_cons_mk (Below.trod laidOut (by kernel_rfl) (of_decide_eq_true (by kernel_rfl)) k5 hnx hlt5) trodAll_mk0)))))

theorem over : Rows.lawS1984CStepsRow.holds Yba.pinned (OpenSpec.ofChange Rows.lawS1984CStepsSpec) :=
  OpenClaim.holds_of_wide 5 Yba.f5 rfl rfl rfl rfl rfl rfl rfl ⟨rfl, rfl, rfl, rfl, rfl⟩ rfl rfl rfl rfl rfl (by kernel_rfl) Yba.func5 (by kernel_rfl)
    (of_decide_eq_true (by kernel_rfl)) (by unfold Func.isWrapper; first | (rw [if_pos (by decide +kernel)]; kernel_rfl) | (rw [if_neg (by decide +kernel)]; exact ⟨rfl, rfl⟩))
    (fun os started H enc _ => lifted os started H enc)

end Go.Proofs.Ybulkaobi.lawSteps

namespace Go.Proofs.Ybulkaobi
theorem stepsHolds : Rows.LawS1984CStepsSaid := lawSteps.over
#print axioms stepsHolds
end Go.Proofs.Ybulkaobi
