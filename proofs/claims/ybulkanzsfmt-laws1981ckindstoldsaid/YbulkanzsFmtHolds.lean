/-
  The told card of the law: for every input the call returns true, and each argument reads behind the call as it read before.
-/
import Derived.Test.YbulkanzsFmtList
import Derived.Test.YbulkanzsFmtCards
import Derived.ProofKit
import Derived.OpenShut
import Derived.ShutString
import Derived.ChangeSlices
import Derived.ChangeSame
import Derived.ChangeMaps5
import Derived.JoinedOf
import Derived.Carry
import Derived.Stop.JoinedAt
import Derived.Stop.Texts
import Derived.Stop.JoinedTold
import Derived.SevenToldRow
namespace Go.Proofs.YbulkanzsFmt
open Go.ChangeShapes Go.WideShapes Go.ChangeAt Go.RowKit
open Go.ChangeMaps (open_string shut_string)
open Go.Extern.Stop Go.Stop Go.Extern

theorem Ybaf.own : ownKnob Ybaf.prog.godebug = none := by kernel_rfl
theorem Ybaf.laidOut : laidOutB Ybaf.prog = true := by kernel_rfl
theorem Ybaf.cells9 : Ybaf.prog.cellsOf 9 = 1 := by kernel_rfl
theorem Ybaf.stops : Ybaf.pinned.checked.prog.stops = Rows.lawS1981CKindsRow.stops := by kernel_rfl
theorem Ybaf.stopKnobs : Ybaf.pinned.checked.prog.stopKnobs = [] := by kernel_rfl
theorem Ybaf.quiet (os : Os) : Stop.quiet Ybaf.pinned.checked.prog os := by
  intro k hk
  rw [Ybaf.stopKnobs] at hk
  cases hk

/-- The walk, all ways together. -/
theorem walk (a0 : Int) (a1 : Bool) (a2 : Int) (a3 : ByteArray) (ao : Option Addr) (len cap : Nat) (ss : List ByteArray) (w : World) (w0 : (Lit.int .u8 a0).wf = true) (hm : len ≤ maxLen)
    (hc : 0 < len → ∃ b off, ao = some ⟨b, off, none⟩ ∧ b < w.heap.size ∧ ∀ j, j < len → w.cell? ⟨b, off + j, none⟩ = some (.string (ss.getD j ByteArray.empty))) :
    Calls Ybaf.prog 3 #[.int .u8 a0, .bool a1, .int .u64 a2, .string a3, .slice ao len cap] w fun e w' => e = .returned (.bool true) ∧ Below w.heap.size w w' := by
  obtain ⟨g0, g1⟩ : 0 ≤ a0 ∧ a0 ≤ 255 := bounds_u8 w0
  by_cases hl : 1024 < len
  · exact kBig a0 a1 a2 a3 ao len cap w hl hm
  · have hl' : len ≤ 1024 := by omega
    have h4 : a0 % 4 = 0 ∨ a0 % 4 = 1 ∨ a0 % 4 = 2 ∨ a0 % 4 = 3 := by omega
    rcases h4 with h4 | h4 | h4 | h4
    · exact k0 a0 a1 a2 a3 ao len cap w hl' g0 g1 h4
    · exact k1 a0 a1 a2 a3 ao len cap w hl' g0 g1 h4
    · exact k2 a0 a1 a2 a3 ao len cap w hl' g0 g1 h4
    · by_cases hz : len = 0
      · subst hz
        exact k3e a0 a1 a2 a3 ao cap w g0 g1 h4
      · obtain ⟨b, off, rfl, hb, hcs⟩ := hc (by omega)
        exact k3 a0 a1 a2 a3 b off len cap ss w hl' g0 g1 h4 hb hcs

set_option maxRecDepth 100000 in
theorem lifted (os : Os) (started : os.Started) (H : Type) (enc : TypeId × Value → H) :
    ReturnsInTold none {} Ybaf.checked os 3 .any Input.okWide ((OpenSpec.ofChange Rows.lawS1981CKindsSpec).preRow enc Ybaf.prog Ybaf.f3 [] false []) (fun F => ((OpenSpec.ofChange Rows.lawS1981CKindsSpec).at F).post enc Ybaf.prog Ybaf.f3 false true false false) (aloneAtReturn Ybaf.prog) nothingAlways := by
  refine returnsInTold_of_row (C := Ybaf.checked) (s := OpenSpec.ofChange Rows.lawS1981CKindsSpec) (by kernel_rfl) Ybaf.own started (by kernel_rfl) Ybaf.func3
    (OpenSpec.witness_stopped (enc := enc) (C := Ybaf.checked) false ⟨#[], #[.int .u8 0, .bool false, .int .u64 0, .string ByteArray.empty, .slice none 0 0], []⟩ 8 (by kernel_rfl) (by kernel_rfl) (by kernel_rfl) (by kernel_rfl)) ?_
  intro F W base args ds gs before _ hF hval0 hW _ _ hsz _ _
  have hval : ∀ (j : Nat) t v, Ybaf.f3.params[j]? = some t → args[j]? = some v → Value.okWide Ybaf.prog W .any base t v := hval0
  have hW' := hW
  obtain ⟨p, q, hA0, hV, rfl, _, _⟩ := hW
  have hA : DataW.TrodAll enc Ybaf.prog W 0 (fun _ => true) true Ybaf.f3.params.toList args.toList ds p := hA0
  rw [Ybaf.params3] at hA hval
  obtain ⟨v0, vs0, d0, ds0, p0, q0, hargs, rfl, rfl, h0, r0⟩ := trodAll_cons hA
  obtain ⟨v1, vs1, d1, ds1, p1, q1, rfl, rfl, rfl, h1, r1⟩ := trodAll_cons r0
  obtain ⟨v2, vs2, d2, ds2, p2, q2, rfl, rfl, rfl, h2, r2⟩ := trodAll_cons r1
  obtain ⟨v3, vs3, d3, ds3, p3, q3, rfl, rfl, rfl, h3, r3⟩ := trodAll_cons r2
  obtain ⟨v4, vs4, d4, ds4, p4, q4, rfl, rfl, rfl, h4, r4⟩ := trodAll_cons r3
  obtain ⟨rfl, rfl, rfl⟩ := trodAll_nil r4
  obtain rfl : args = #[v0, v1, v2, v3, v4] := by cases args; simp_all
  obtain ⟨rfl, rfl⟩ := trodVars_none hV
  obtain ⟨a0, rfl, rfl, rfl, w0⟩ := open_int Ybaf.underlying5 (hval 0 5 v0 rfl rfl) h0
  obtain ⟨a1, rfl, rfl, rfl⟩ := open_bool Ybaf.underlying4 (hval 1 4 v1 rfl rfl) h1
  obtain ⟨a2, rfl, rfl, rfl, w2⟩ := open_int Ybaf.underlying22 (hval 2 22 v2 rfl rfl) h2
  obtain ⟨a3, rfl, rfl, rfl, w3⟩ := open_string Ybaf.underlying9 (hval 3 9 v3 rfl rfl) h3
  obtain ⟨ao, len, cap, rfl⟩ := okWide_slice Ybaf.underlying23 (hval 4 23 v4 rfl rfl)
  have h4k := h4
  obtain ⟨fuel, hf⟩ := h4
  clear hA0 hval0
  simp only [List.append_nil, List.nil_append] at hW'
  have hlt : ∀ x ∈ p4, x.block < W.heap.size := fun x hx => by simpa using hW'.lt x hx
  have fin : ∀ W', Below W.heap.size W W' → ((OpenSpec.ofChange Rows.lawS1981CKindsSpec).at F.told).post enc Ybaf.checked.prog Ybaf.f3 false true false false W #[.int .u8 a0, .bool a1, .int .u64 a2, .string a3, .slice ao len cap] (.bool true) W' := by
    intro W' hnx
    refine ⟨_, _, _, [] ++ [], [] ++ ([] ++ ([] ++ ([] ++ (p4 ++ [])))), [], hW', ?_, ?_, rfl, hnx.frame _, fun h => by cases h⟩
    · exact trodAll_cons_mk (shut_bool Ybaf.underlying4 true) trodAll_mk0
    · exact trodAll_cons_mk (shut_int Ybaf.underlying5 w0) (trodAll_cons_mk (shut_bool Ybaf.underlying4 a1) (trodAll_cons_mk (shut_int Ybaf.underlying22 w2) (trodAll_cons_mk (shut_string Ybaf.underlying9 w3) (trodAll_cons_mk (Below.trod Ybaf.laidOut (by kernel_rfl) (of_decide_eq_true (by kernel_rfl)) h4k hnx hlt) trodAll_mk0))))
  rcases open_strings Ybaf.underlying23 Ybaf.underlying9 Ybaf.cells9 hf with ⟨hcs, hx⟩ | ⟨a, len', cap', ss, hcs, _, hl, hm, hz, hx, hcell, hws⟩
  · simp [Value.cells] at hcs
    obtain ⟨rfl, rfl, rfl⟩ := hcs
    refine (walk a0 a1 a2 a3 none 0 0 [] W w0 (Nat.zero_le _) (fun h => absurd h (Nat.lt_irrefl _))).mono fun e W' ⟨he, hnx⟩ => ?_
    subst he
    exact ⟨_, rfl, fin W' hnx⟩
  · simp [Value.cells] at hcs
    obtain ⟨rfl, rfl, rfl⟩ := hcs
    simp only [Prod.mk.injEq] at hx
    obtain ⟨_, hp⟩ := hx
    simp only [if_true] at hz
    have hmem : 0 < len → ∃ b off, some a = some ⟨b, off, none⟩ ∧ b < W.heap.size ∧ ∀ j, j < len → W.cell? ⟨b, off + j, none⟩ = some (.string (ss.getD j ByteArray.empty)) := by
      intro hpos
      obtain ⟨b, off, spot⟩ := a
      have hspot : spot = none := by simpa [Addr.add] using World.cell?_spot (hcell 0 (by omega))
      subst hspot
      refine ⟨b, off, rfl, hlt (.cell b off) (by rw [hp]; exact MemPlace.mem_row.2 ⟨0, by omega, by simp⟩), fun j hj => ?_⟩
      rw [← add_plain]
      exact hcell j (by omega)
    refine (walk a0 a1 a2 a3 (some a) len cap ss W w0 (by omega) hmem).mono fun e W' ⟨he, hnx⟩ => ?_
    subst he
    exact ⟨_, rfl, fin W' hnx⟩

theorem kindsTold : Rows.LawS1981CKindsToldSaid :=
  Claim7.holds_of_told_any (c := Rows.lawS1981CKindsRow) 3 Ybaf.f3 _ _ [] (true, Rows.lawS1981CKindsCard.stood.harness.2) true false (by kernel_rfl) rfl rfl rfl Ybaf.laidOut (by kernel_rfl) rfl ⟨rfl, rfl, rfl, rfl, rfl, rfl, rfl⟩ rfl rfl (by kernel_rfl) (by kernel_rfl) Ybaf.func3 (by kernel_rfl)
    (of_decide_eq_true (by kernel_rfl)) (of_decide_eq_true (by kernel_rfl)) Ybaf.stops.symm rfl Ybaf.stopKnobs.symm (by kernel_rfl)
    (by kernel_rfl) (by kernel_rfl) (by kernel_rfl) (by kernel_rfl) (by kernel_rfl) (by kernel_rfl) (by kernel_rfl) (by kernel_rfl) (by kernel_rfl) rfl (by kernel_rfl) rfl rfl
    rfl rfl
    rfl (by kernel_rfl) (by kernel_rfl) (by kernel_rfl) (by decide) (by kernel_rfl)
    (OpenClaim.moreEntering_of (by kernel_rfl) (by kernel_rfl) (by kernel_rfl) (by kernel_rfl) (by kernel_rfl) (by kernel_rfl) (by kernel_rfl) (by kernel_rfl) (by kernel_rfl) (by kernel_rfl))
    ⟨_, WideRow.started_initial, Ybaf.quiet _⟩
    (fun os started _ H enc _ => lifted os started H enc)

#print axioms kindsTold

end Go.Proofs.YbulkanzsFmt
