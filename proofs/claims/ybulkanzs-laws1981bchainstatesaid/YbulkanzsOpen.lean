/-
  A preset that came in, opened: a string and nineteen numbers.
-/
import Derived.Test.YbulkanzsSmall
import Derived.ProofKit
import Derived.OpenShut
import Derived.ShutString
namespace Go.Proofs.Ybulkanzs
open Go.ChangeShapes Go.WideShapes Go.ChangeAt Go.RowKit

theorem Yba.cells22 : Yba.prog.cellsOf 22 = 1 := by kernel_rfl
theorem Yba.cells9 : Yba.prog.cellsOf 9 = 1 := by kernel_rfl
theorem Yba.cells53 : Yba.prog.cellsOf 53 = 20 := by kernel_rfl

theorem list20 {α : Type} : ∀ (l : List α), l.length = 20 → ∃ c0 c1 c2 c3 c4 c5 c6 c7 c8 c9 c10 c11 c12 c13 c14 c15 c16 c17 c18 c19, l = [c0, c1, c2, c3, c4, c5, c6, c7, c8, c9, c10, c11, c12, c13, c14, c15, c16, c17, c18, c19]
  | [c0, c1, c2, c3, c4, c5, c6, c7, c8, c9, c10, c11, c12, c13, c14, c15, c16, c17, c18, c19], _ => ⟨c0, c1, c2, c3, c4, c5, c6, c7, c8, c9, c10, c11, c12, c13, c14, c15, c16, c17, c18, c19, rfl⟩

theorem one_int {H : Type} {enc : TypeId × Value → H} {W : World} {base : Nat} {sp : Nat → Bool} {held : Bool} {n : Nat} {c : Value} {xs : List (DataW H × List MemPlace)} {i : Nat} (hi : i < xs.length)
    (h : DataW.trod enc Yba.prog W base sp held n 22 [c] = xs[i]?) : ∃ a, c = .int .u64 a ∧ (Lit.int .u64 a).wf = true := by
  rw [List.getElem?_eq_getElem hi] at h
  obtain ⟨a, ha, _, hw⟩ := DataW.trod_int Yba.underlying22 h
  simp only [List.cons.injEq, and_true] at ha
  exact ⟨a, ha, hw⟩
theorem one_str {H : Type} {enc : TypeId × Value → H} {W : World} {base : Nat} {sp : Nat → Bool} {held : Bool} {n : Nat} {c : Value} {xs : List (DataW H × List MemPlace)} {i : Nat} (hi : i < xs.length)
    (h : DataW.trod enc Yba.prog W base sp held n 9 [c] = xs[i]?) : ∃ s, c = .string s := by
  rw [List.getElem?_eq_getElem hi] at h
  obtain ⟨s, hs, _⟩ := DataW.trod_string Yba.underlying9 h
  simp only [List.cons.injEq, and_true] at hs
  exact ⟨s, hs⟩

set_option maxRecDepth 100000 in
theorem open_preset {H : Type} {enc : TypeId × Value → H} {W : World} {base b0 : Nat} {sp : Nat → Bool} {held : Bool} {v : Value} {d : DataW H} {p : List MemPlace} (hv : Value.okWide Yba.prog W .any b0 53 v) (h : DataW.Trod enc Yba.prog W base sp held 53 v d p) :
    ∃ (s : ByteArray) (x1 x2 x3 y4 y5 y6 y7 y8 y9 y10 y11 y12 y13 y14 y15 y16 y17 y18 y19 : Int), v = .agg (pcs s x1 x2 x3 [.int .u64 y4, .int .u64 y5, .int .u64 y6, .int .u64 y7, .int .u64 y8, .int .u64 y9, .int .u64 y10, .int .u64 y11, .int .u64 y12, .int .u64 y13, .int .u64 y14, .int .u64 y15, .int .u64 y16, .int .u64 y17, .int .u64 y18, .int .u64 y19]).toArray ∧ (Lit.int .u64 x1).wf = true ∧ (Lit.int .u64 x2).wf = true ∧ (Lit.int .u64 x3).wf = true ∧ (Lit.int .u64 y4).wf = true ∧ (Lit.int .u64 y5).wf = true ∧ (Lit.int .u64 y6).wf = true ∧ (Lit.int .u64 y7).wf = true ∧ (Lit.int .u64 y8).wf = true ∧ (Lit.int .u64 y9).wf = true ∧ (Lit.int .u64 y10).wf = true ∧ (Lit.int .u64 y11).wf = true ∧ (Lit.int .u64 y12).wf = true ∧ (Lit.int .u64 y13).wf = true ∧ (Lit.int .u64 y14).wf = true ∧ (Lit.int .u64 y15).wf = true ∧ (Lit.int .u64 y16).wf = true ∧ (Lit.int .u64 y17).wf = true ∧ (Lit.int .u64 y18).wf = true ∧ (Lit.int .u64 y19).wf = true := by
  obtain ⟨cs, rfl, hsz⟩ := okWide_struct Yba.underlying53 hv
  rw [Yba.cells53] at hsz
  obtain ⟨l⟩ := cs
  obtain ⟨c0, c1, c2, c3, c4, c5, c6, c7, c8, c9, c10, c11, c12, c13, c14, c15, c16, c17, c18, c19, rfl⟩ := list20 l (by simpa using hsz)
  obtain ⟨fuel, hf⟩ := h
  obtain ⟨xs, n, _, _, _, hxl, hall⟩ := DataW.trod_struct Yba.underlying53 hf
  simp only [List.size_toArray, List.length_cons, List.length_nil, Nat.reduceAdd, Nat.zero_add] at hxl
  obtain ⟨s, rfl⟩ := one_str (i := 0) (by omega) (hall 0 _ rfl)
  obtain ⟨x1, rfl, w1⟩ := one_int (i := 1) (by omega) (hall 1 _ rfl)
  obtain ⟨x2, rfl, w2⟩ := one_int (i := 2) (by omega) (hall 2 _ rfl)
  obtain ⟨x3, rfl, w3⟩ := one_int (i := 3) (by omega) (hall 3 _ rfl)
  obtain ⟨y4, rfl, w4⟩ := one_int (i := 4) (by omega) (hall 4 _ rfl)
  obtain ⟨y5, rfl, w5⟩ := one_int (i := 5) (by omega) (hall 5 _ rfl)
  obtain ⟨y6, rfl, w6⟩ := one_int (i := 6) (by omega) (hall 6 _ rfl)
  obtain ⟨y7, rfl, w7⟩ := one_int (i := 7) (by omega) (hall 7 _ rfl)
  obtain ⟨y8, rfl, w8⟩ := one_int (i := 8) (by omega) (hall 8 _ rfl)
  obtain ⟨y9, rfl, w9⟩ := one_int (i := 9) (by omega) (hall 9 _ rfl)
  obtain ⟨y10, rfl, w10⟩ := one_int (i := 10) (by omega) (hall 10 _ rfl)
  obtain ⟨y11, rfl, w11⟩ := one_int (i := 11) (by omega) (hall 11 _ rfl)
  obtain ⟨y12, rfl, w12⟩ := one_int (i := 12) (by omega) (hall 12 _ rfl)
  obtain ⟨y13, rfl, w13⟩ := one_int (i := 13) (by omega) (hall 13 _ rfl)
  obtain ⟨y14, rfl, w14⟩ := one_int (i := 14) (by omega) (hall 14 _ rfl)
  obtain ⟨y15, rfl, w15⟩ := one_int (i := 15) (by omega) (hall 15 _ rfl)
  obtain ⟨y16, rfl, w16⟩ := one_int (i := 16) (by omega) (hall 16 _ rfl)
  obtain ⟨y17, rfl, w17⟩ := one_int (i := 17) (by omega) (hall 17 _ rfl)
  obtain ⟨y18, rfl, w18⟩ := one_int (i := 18) (by omega) (hall 18 _ rfl)
  obtain ⟨y19, rfl, w19⟩ := one_int (i := 19) (by omega) (hall 19 _ rfl)
  exact ⟨s, x1, x2, x3, y4, y5, y6, y7, y8, y9, y10, y11, y12, y13, y14, y15, y16, y17, y18, y19, rfl, w1, w2, w3, w4, w5, w6, w7, w8, w9, w10, w11, w12, w13, w14, w15, w16, w17, w18, w19⟩

end Go.Proofs.Ybulkanzs
