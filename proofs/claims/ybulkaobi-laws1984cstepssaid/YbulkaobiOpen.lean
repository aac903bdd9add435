/-
  What came in, opened: slices of numbers, the messages.
-/
import Derived.Test.YbulkaobiOk
import Derived.ProofKit
import Derived.OpenShut
import Derived.ShutString
import Derived.Deep.Slices
namespace Go.Proofs.Ybulkaobi
open Go.ChangeShapes Go.WideShapes Go.ChangeAt Go.RowKit Go.Deep
set_option linter.unusedVariables false
set_option linter.unusedSimpArgs false

theorem Yba.cells3 : Yba.prog.cellsOf 3 = 1 := by kernel_rfl
theorem Yba.cells5 : Yba.prog.cellsOf 5 = 1 := by kernel_rfl
theorem Yba.cells21 : Yba.prog.cellsOf 21 = 1 := by kernel_rfl
theorem Yba.cells34 : Yba.prog.cellsOf 34 = 1 := by kernel_rfl
theorem Yba.cells36 : Yba.prog.cellsOf 36 = 2 := by kernel_rfl

/-- A slice of numbers that came in. -/
theorem open_row {H : Type} {enc : TypeId × Value → H} {W : World} {base fuel : Nat} {sp : Nat → Bool} {held : Bool} {t e : TypeId} {k : IntKind} {ao : Option Addr} {n cap : Nat} {x : DataW H × List MemPlace} (ht : Yba.prog.underlying t = some (.slice e)) (he : Yba.prog.underlying e = some (.int k)) (hc : Yba.prog.cellsOf e = 1)
    (h : DataW.trod enc Yba.prog W base sp held fuel t [.slice ao n cap] = some x) :
    n ≤ 9223372036854775807 ∧ ∃ zs : Nat → Int, (0 < n → ∃ b off, ao = some ⟨b, off, none⟩ ∧ ∀ j, j < n → W.cell? ⟨b, off + j, none⟩ = some (.int k (zs j))) ∧ ∀ j, j < n → (Lit.int k (zs j)).wf = true := by
  rcases open_ints ht he hc h with ⟨hcs, _⟩ | ⟨a, len', cap', zs, hcs, _, hl, hm, hz, _, hcell, hwz⟩
  · simp only [List.cons.injEq, Value.slice.injEq, and_true] at hcs
    obtain ⟨rfl, rfl, rfl⟩ := hcs
    exact ⟨by omega, fun _ => 0, fun h => absurd h (Nat.lt_irrefl _), fun _ h => absurd h (Nat.not_lt_zero _)⟩
  · simp only [List.cons.injEq, Value.slice.injEq, and_true] at hcs
    obtain ⟨rfl, rfl, rfl⟩ := hcs
    have hle : n ≤ zs.length := by rw [hz]; split <;> omega
    unfold maxLen at hm
    refine ⟨by omega, fun j => zs.getD j 0, fun hn => ?_, fun j hj => ?_⟩
    · obtain ⟨b, off, spot⟩ := a
      have hspot : spot = none := by simpa [Addr.add] using World.cell?_spot (hcell 0 (by omega))
      subst hspot
      refine ⟨b, off, rfl, fun j hj => ?_⟩
      rw [← add_plain]
      exact hcell j (by omega)
    · have hj' : j < zs.length := by omega
      have := hwz zs[j] (List.getElem_mem hj')
      simpa [List.getD, hj'] using this

theorem row_at {W : World} {k : IntKind} {ao : Option Addr} {n : Nat} {zs : Nat → Int} (h : 0 < n → ∃ b off, ao = some ⟨b, off, none⟩ ∧ ∀ j, j < n → W.cell? ⟨b, off + j, none⟩ = some (.int k (zs j))) : RowAt W k ao n := fun hn => by
  obtain ⟨b, off, h1, h2⟩ := h hn
  exact ⟨b, off, h1, fun j hj => ⟨_, h2 j hj⟩⟩

theorem two {l : List Value} (h : l.length = 2) : ∃ x0 x1, l = [x0, x1] := by
  match l, h with
  | [x0, x1], _ => exact ⟨x0, x1, rfl⟩
theorem add_zero' (a : Addr) : a.add 0 = a := by simp [Addr.add]

/-- One message that came in. -/
theorem open_msg {H : Type} {enc : TypeId × Value → H} {W : World} {base fuel : Nat} {sp : Nat → Bool} {held : Bool} {cs : List Value} {x : DataW H × List MemPlace}
    (h : DataW.trod enc Yba.prog W base sp held fuel 36 cs = some x) : ∃ (f : Int) (dO : Option Addr) (dn dc : Nat), cs = [.int .i64 f, .slice dO dn dc] ∧ dn ≤ 9223372036854775807 ∧ RowAt W .u8 dO dn := by
  obtain ⟨y0, y1, n, _, hl, h0, h1⟩ := trod_struct2 Yba.underlying36 h
  rw [Yba.cells36] at hl
  obtain ⟨c0, c1, rfl⟩ := two hl
  · simp only [Yba.cells3, Yba.cells34] at h0 h1
    change DataW.trod enc Yba.prog W base sp held n 3 [c0] = some y0 at h0
    change DataW.trod enc Yba.prog W base sp held n 34 [c1] = some y1 at h1
    obtain ⟨f, hf, _, _⟩ := DataW.trod_int Yba.underlying3 h0
    simp only [List.cons.injEq, and_true] at hf
    subst hf
    have hs : ∃ dO dn dc, c1 = .slice dO dn dc := by
      rcases DataW.trod_slice Yba.underlying34 h1 with ⟨hc, _⟩ | ⟨a, len, cap, _, _, _, _, hc, _⟩
      · simp only [List.cons.injEq, and_true] at hc; exact ⟨_, _, _, hc⟩
      · simp only [List.cons.injEq, and_true] at hc; exact ⟨_, _, _, hc⟩
    obtain ⟨dO, dn, dc, rfl⟩ := hs
    obtain ⟨hd, zs, hz, _⟩ := open_row Yba.underlying34 Yba.underlying5 Yba.cells5 h1
    exact ⟨f, dO, dn, dc, rfl, hd, row_at hz⟩

/-- The messages that came in. -/
theorem open_msgs {H : Type} {enc : TypeId × Value → H} {W : World} {base fuel : Nat} {sp : Nat → Bool} {held : Bool} {ao : Option Addr} {n cap : Nat} {x : DataW H × List MemPlace}
    (h : DataW.trod enc Yba.prog W base sp held fuel 31 [.slice ao n cap] = some x) : ∃ F D, Msgs W ao n F D := by
  rcases open_slice Yba.underlying31 h with ⟨hcs, _⟩ | ⟨a, len', cap', m, n', D0, Pl, hcs, _, hl, hm, hz, _, hel⟩
  · simp only [List.cons.injEq, Value.slice.injEq, and_true] at hcs
    obtain ⟨rfl, rfl, rfl⟩ := hcs
    exact ⟨fun _ => 0, fun _ => .slice none 0 0, ⟨fun h => absurd h (Nat.lt_irrefl _), fun t => ⟨none, 0, 0, rfl, by omega, fun h => absurd h (Nat.lt_irrefl _)⟩⟩⟩
  · simp only [List.cons.injEq, Value.slice.injEq, and_true] at hcs
    obtain ⟨rfl, rfl, rfl⟩ := hcs
    have hle : n ≤ m := by rw [hz]; split <;> omega
    have each : ∀ t, ∃ fd : Int × Value, (t < n → W.cell? (a.add (t * 2)) = some (.int .i64 fd.1) ∧ W.cell? ((a.add (t * 2)).add 1) = some fd.2) ∧ ∃ dO dn dc, fd.2 = .slice dO dn dc ∧ dn ≤ 9223372036854775807 ∧ RowAt W .u8 dO dn := by
      intro t
      by_cases ht : t < n
      · obtain ⟨cs', hc, htr⟩ := hel t (by omega)
        rw [Yba.cells36] at hc
        obtain ⟨f, dO, dn, dc, rfl, hd, hr⟩ := open_msg htr
        have hs := World.cells?_some hc
        refine ⟨(f, .slice dO dn dc), fun _ => ?_, dO, dn, dc, rfl, hd, hr⟩
        have q0 := hs.2.2 0 (by omega)
        rw [add_zero'] at q0
        exact ⟨q0, hs.2.2 1 (by omega)⟩
      · exact ⟨(0, .slice none 0 0), fun h => absurd h ht, none, 0, 0, rfl, by omega, fun h => absurd h (Nat.lt_irrefl _)⟩
    obtain ⟨G, hG⟩ := Classical.skolem.1 each
    refine ⟨fun t => (G t).1, fun t => (G t).2, ⟨fun hn => ?_, fun t => (hG t).2⟩⟩
    obtain ⟨b, off, spot⟩ := a
    have hspot : spot = none := by simpa [Addr.add] using World.cell?_spot ((hG 0).1 hn).1
    subst hspot
    refine ⟨b, off, rfl, fun t ht => ?_⟩
    have := (hG t).1 ht
    simp only [add_plain] at this
    exact this

end Go.Proofs.Ybulkaobi
