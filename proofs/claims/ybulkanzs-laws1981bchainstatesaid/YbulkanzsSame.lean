/-
  A preset against itself: '!=' says no.
-/
import Derived.Test.YbulkanzsSmall
namespace Go.Proofs.Ybulkanzs
open Go.RowKit YbulkanzsLaws

theorem eqf_int {P : Program} (w : World) (d : Nat) (xs : Array Value) (f : Field) (fs : List Field) (k k' : IntKind) (y : Int) (hu : P.underlying f.type = some (.int k')) (hp : ∀ w, (part f.type xs f.offset).run P w = .ok (.int k y) w) :
    (Op.eqFields (d + 1) xs xs (f :: fs)).run P w = (Op.eqFields (d + 1) xs xs fs).run P w := by
  simp only [Op.eqFields]
  split
  · simp [hp, run_equalIn_int w d f.type k k' y y hu]
  · rfl
theorem eqf_string {P : Program} (w : World) (d : Nat) (xs : Array Value) (f : Field) (fs : List Field) (s : ByteArray) (hu : P.underlying f.type = some .string) (hp : ∀ w, (part f.type xs f.offset).run P w = .ok (.string s) w) :
    (Op.eqFields (d + 1) xs xs (f :: fs)).run P w = (Op.eqFields (d + 1) xs xs fs).run P w := by
  simp only [Op.eqFields]
  split
  · simp [hp, run_equalIn_string w d f.type s s hu]
  · rfl

set_option maxRecDepth 100000 in
theorem eq53 (s : ByteArray) (x1 x2 x3 : Int) (y4 y5 y6 y7 y8 y9 y10 y11 y12 y13 y14 y15 y16 y17 y18 y19 : Int) (w : World) :
    (Op.equalIn 10000 53 (.agg (pcs s x1 x2 x3 [.int .u64 y4, .int .u64 y5, .int .u64 y6, .int .u64 y7, .int .u64 y8, .int .u64 y9, .int .u64 y10, .int .u64 y11, .int .u64 y12, .int .u64 y13, .int .u64 y14, .int .u64 y15, .int .u64 y16, .int .u64 y17, .int .u64 y18, .int .u64 y19]).toArray) (.agg (pcs s x1 x2 x3 [.int .u64 y4, .int .u64 y5, .int .u64 y6, .int .u64 y7, .int .u64 y8, .int .u64 y9, .int .u64 y10, .int .u64 y11, .int .u64 y12, .int .u64 y13, .int .u64 y14, .int .u64 y15, .int .u64 y16, .int .u64 y17, .int .u64 y18, .int .u64 y19]).toArray)).run Yba.prog w = .ok true w := by
  refine (run_equalIn_struct w 9999 53 _ _ (by kernel_rfl) (by kernel_rfl)).trans ?_
  simp only [Program.fieldsOf, Yba.underlying53]
  refine (eqf_string w 9998 _ _ _ s Yba.underlying9 (fun w => by kernel_rfl)).trans ?_
  refine (eqf_int w 9998 _ _ _ .u64 .u64 x1 Yba.underlying22 (fun w => by kernel_rfl)).trans ?_
  refine (eqf_int w 9998 _ _ _ .u64 .u64 x2 Yba.underlying22 (fun w => by kernel_rfl)).trans ?_
  refine (eqf_int w 9998 _ _ _ .u64 .u64 x3 Yba.underlying22 (fun w => by kernel_rfl)).trans ?_
  refine (eqf_int w 9998 _ _ _ .u64 .u64 y4 Yba.underlying22 (fun w => by kernel_rfl)).trans ?_
  refine (eqf_int w 9998 _ _ _ .u64 .u64 y5 Yba.underlying22 (fun w => by kernel_rfl)).trans ?_
  refine (eqf_int w 9998 _ _ _ .u64 .u64 y6 Yba.underlying22 (fun w => by kernel_rfl)).trans ?_
  refine (eqf_int w 9998 _ _ _ .u64 .u64 y7 Yba.underlying22 (fun w => by kernel_rfl)).trans ?_
  refine (eqf_int w 9998 _ _ _ .u64 .u64 y8 Yba.underlying22 (fun w => by kernel_rfl)).trans ?_
  refine (eqf_int w 9998 _ _ _ .u64 .u64 y9 Yba.underlying22 (fun w => by kernel_rfl)).trans ?_
  refine (eqf_int w 9998 _ _ _ .u64 .u64 y10 Yba.underlying22 (fun w => by kernel_rfl)).trans ?_
  refine (eqf_int w 9998 _ _ _ .u64 .u64 y11 Yba.underlying22 (fun w => by kernel_rfl)).trans ?_
  refine (eqf_int w 9998 _ _ _ .u64 .u64 y12 Yba.underlying22 (fun w => by kernel_rfl)).trans ?_
  refine (eqf_int w 9998 _ _ _ .u64 .u64 y13 Yba.underlying22 (fun w => by kernel_rfl)).trans ?_
  refine (eqf_int w 9998 _ _ _ .u64 .u64 y14 Yba.underlying22 (fun w => by kernel_rfl)).trans ?_
  refine (eqf_int w 9998 _ _ _ .u64 .u64 y15 Yba.underlying22 (fun w => by kernel_rfl)).trans ?_
  refine (eqf_int w 9998 _ _ _ .u64 .u64 y16 Yba.underlying22 (fun w => by kernel_rfl)).trans ?_
  refine (eqf_int w 9998 _ _ _ .u64 .u64 y17 Yba.underlying22 (fun w => by kernel_rfl)).trans ?_
  refine (eqf_int w 9998 _ _ _ .u64 .u64 y18 Yba.underlying22 (fun w => by kernel_rfl)).trans ?_
  refine (eqf_int w 9998 _ _ _ .u64 .u64 y19 Yba.underlying22 (fun w => by kernel_rfl)).trans ?_
  rfl

theorem neq53 (s : ByteArray) (x1 x2 x3 : Int) (y4 y5 y6 y7 y8 y9 y10 y11 y12 y13 y14 y15 y16 y17 y18 y19 : Int) (w : World) :
    (binOp .neq 53 (.agg (pcs s x1 x2 x3 [.int .u64 y4, .int .u64 y5, .int .u64 y6, .int .u64 y7, .int .u64 y8, .int .u64 y9, .int .u64 y10, .int .u64 y11, .int .u64 y12, .int .u64 y13, .int .u64 y14, .int .u64 y15, .int .u64 y16, .int .u64 y17, .int .u64 y18, .int .u64 y19]).toArray) (.agg (pcs s x1 x2 x3 [.int .u64 y4, .int .u64 y5, .int .u64 y6, .int .u64 y7, .int .u64 y8, .int .u64 y9, .int .u64 y10, .int .u64 y11, .int .u64 y12, .int .u64 y13, .int .u64 y14, .int .u64 y15, .int .u64 y16, .int .u64 y17, .int .u64 y18, .int .u64 y19]).toArray)).run Yba.prog w = .ok (.bool false) w := by
  rw [run_neq_struct, eq53]
  rfl

end Go.Proofs.Ybulkanzs
