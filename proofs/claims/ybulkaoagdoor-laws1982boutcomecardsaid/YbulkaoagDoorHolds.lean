/-
  LawS1982BOutcome: the row, proved, and its tied card.
-/
import Derived.Test.YbulkaoagDoorOut
import Derived.Test.YbulkaoagDoorTie
import Derived.Test.YbulkaoagDoorCards
import Derived.ProofKit
import Derived.LaidMore
import Derived.OpenShut
import Derived.Stop.Joined
import Derived.ChangeSame
import Derived.ChangeVars
import Derived.JoinedOf
import Derived.RowKit
import Derived.RowKitTokens
import Derived.LaidLaws
import Derived.WalkSmall
import Derived.SevenTiedAt
namespace Go.Proofs.YbulkaoagDoor
open Go.ChangeShapes Go.WideShapes Go.ChangeAt Go.RowKit

def nC : String := Rows.lawS1982BOutcomeSpec.vars.headD ""
def nK : String := (Rows.lawS1982BOutcomeSpec.vars.drop 1).headD ""

theorem own : ownKnob Ybad.prog.godebug = none := by kernel_rfl
theorem laidOut : laidOutB Ybad.prog = true := by kernel_rfl
theorem gC : Ybad.prog.globalNamed nC = some 0 := by kernel_rfl
theorem gK : Ybad.prog.globalNamed nK = some 1 := by kernel_rfl
theorem tC : (Ybad.prog.globals[0]?).map (·.type) = some 24 := by kernel_rfl
theorem tK : (Ybad.prog.globals[1]?).map (·.type) = some 24 := by kernel_rfl
theorem cells88 : Ybad.prog.cellsOf 88 = 1 := by kernel_rfl
theorem cells9 : Ybad.prog.cellsOf 9 = 1 := by kernel_rfl

def nameOf (d : DataW Unit) : String := match d with | .iface n _ => n | _ => ""
def nP : String := nameOf Rows.laid_example_com_rumorwire_rumorwire_ErrClosed

theorem row86 (u : TypeId) (h : Ybad.prog.typeName? 3 u = some nP) : u = 86 := by
  have key := typeName_ptr_named (P := Ybad.prog) (nm := "errors.errorString") (tp := 86) (by kernel_rfl) (by kernel_rfl) (by decide)
  exact key u (h.trans (by kernel_rfl))

-- What the listed variables give the walk.
set_option maxRecDepth 100000 in
theorem of_laid {W : World} (h : laidMetH Ybad.prog Rows.lawS1982BOutcomeRow.laid W) :
    ∃ a0 a1, W.var? Ybad.prog nC = some #[.iface 86 (.pointer (some a0))] ∧ W.var? Ybad.prog nK = some #[.iface 86 (.pointer (some a1))] := by
  rw [MakeChecks.laidMetH_plain _ _ _ (by kernel_rfl)] at h
  obtain ⟨ps, ⟨g1, t1, cs1, f1, p1, q1, hg1, ht1, hv1, hd1, ⟨g0, t0, cs0, f0, p0, q0, hg0, ht0, hv0, hd0, hq0, e0⟩, e1⟩, hnd, hrows⟩ := h
  have hg1' : Ybad.prog.globalNamed nK = some g1 := hg1
  have hg0' : Ybad.prog.globalNamed nC = some g0 := hg0
  obtain rfl := Option.some.inj (gK.symm.trans hg1')
  obtain rfl := Option.some.inj (gC.symm.trans hg0')
  obtain rfl := Option.some.inj (tK.symm.trans ht1)
  obtain rfl := Option.some.inj (tC.symm.trans ht0)
  have hq0' : q0 = [] := hq0
  subst hq0'
  subst e0
  subst e1
  obtain ⟨l0⟩ := cs0
  obtain ⟨l1⟩ := cs1
  have ok0 : ∀ u v, l0 = [.iface u v] → Value.okWide Ybad.prog W .any 0 u v := fun u v e => by
    subst e
    exact (hrows 0 0 (by simp [MemPlace.row])).2 u v (by simpa using World.var?_cell hg0 hv0 0)
  have ok1 : ∀ u v, l1 = [.iface u v] → Value.okWide Ybad.prog W .any 0 u v := fun u v e => by
    subst e
    exact (hrows 1 0 (by simp [MemPlace.row])).2 u v (by simpa using World.var?_cell hg1 hv1 0)
  obtain ⟨a0, s0, rfl, _⟩ := errorString_of_trod (nm := nP) Ybad.underlying24 row86 Ybad.underlying86 Ybad.underlying88 rfl rfl Ybad.underlying9 cells88 cells9 hd0 ok0
  obtain ⟨a1, s1, rfl, _⟩ := errorString_of_trod (nm := nP) Ybad.underlying24 row86 Ybad.underlying86 Ybad.underlying88 rfl rfl Ybad.underlying9 cells88 cells9 hd1 ok1
  exact ⟨a0, a1, hv0, hv1⟩

/-- The door's own heap meets the condition. -/
theorem door_met (os : Os) (args : Array Value) : laidMetH Ybad.prog Rows.lawS1982BOutcomeRow.laid ((World.doorLaid Ybad.prog 47 os).forCall (fun _ _ => 0) ⟨#[], args, []⟩).memory :=
  laidMetH_of_parts3 (fuel := 8) (laidMet_of_run' 8 (by kernel_rfl) (by kernel_rfl)) (by kernel_rfl) (by kernel_rfl)

/-- The two variables read as tokens, in that order. -/
theorem vars_read {H : Type} (enc : TypeId × Value → H) {W : World} {x0 x1 : Value} (h0 : W.var? Ybad.prog nC = some #[x0]) (h1 : W.var? Ybad.prog nK = some #[x1]) (i0 : IsIface x0) (i1 : IsIface x1) (sp : Nat → Bool) :
    DataW.TrodVars enc Ybad.prog W sp [nC, nK] [tok enc x0, tok enc x1] [.cell 0 0, .cell 1 0] :=
  ⟨0, 24, #[x0], 1, [], [.cell 1 0], gC, tC, h0, trod_held Ybad.underlying24 i0 0, ⟨1, 24, #[x1], 1, [], [], gK, tK, h1, trod_held Ybad.underlying24 i1 0, rfl, rfl⟩, rfl⟩

theorem walk (c k : Bool) (a0 a1 : Addr) (w : World) (h0 : w.cell? ⟨0, 0, none⟩ = some (.iface 86 (.pointer (some a0)))) (h1 : w.cell? ⟨1, 0, none⟩ = some (.iface 86 (.pointer (some a1)))) (hs : 1 < w.heap.size) :
    Calls Ybad.prog 3 #[.bool c, .bool k] w fun e w' => e = .returned (.bool true) ∧ Below w.heap.size w w' := by
  cases c <;> cases k
  · exact walk_false_false a0 a1 w h0 h1 hs
  · exact walk_false_true a0 a1 w h0 h1 hs
  · exact walk_true_false a0 a1 w h0 h1 hs
  · exact walk_true_true a0 a1 w h0 h1 hs

set_option maxRecDepth 100000 in
theorem lifted (os : Os) (started : os.Started) (H : Type) (enc : TypeId × Value → H) :
    ReturnsInHanded {} Ybad.checked os 3 .any (fun w args => (Rows.lawS1982BOutcomeSpec.pre enc Ybad.prog Ybad.f3 [] false w args ∧ laidMetH Ybad.prog Rows.lawS1982BOutcomeRow.laid w) ∧ sizedMet enc Ybad.prog Ybad.f3 (OpenSpec.ofChange Rows.lawS1982BOutcomeSpec) false w args)
      (Rows.lawS1982BOutcomeSpec.post enc Ybad.prog Ybad.f3 false true false false) := by
  refine returnsInHanded_of_change_and (C := Ybad.checked) (X := fun w _ => laidMetH Ybad.prog Rows.lawS1982BOutcomeRow.laid w) (fun _ _ _ hh h => h.of_heap hh) own started (by kernel_rfl) Ybad.func3
    (ChangeSpec.witness_shaped (enc := enc) (C := Ybad.checked) (os := os) (X := fun w _ => laidMetH Ybad.prog Rows.lawS1982BOutcomeRow.laid w) false (World.doorLaid Ybad.prog 47 os) #[.bool false, .bool false] 8 rfl (World.shaped_of_RefB (by kernel_rfl) (by kernel_rfl)) (by kernel_rfl) (by kernel_rfl) (by kernel_rfl) (door_met os _)) ?_
  intro W base args ds gs before hval0 hW _ _ hL _
  have hval : ∀ (j : Nat) t v, Ybad.f3.params[j]? = some t → args[j]? = some v → Value.okWide Ybad.prog W .any base t v := hval0
  have hW' := hW
  obtain ⟨p, q, hA0, hV0, rfl, hfz, hnd⟩ := hW
  have hA : DataW.TrodAll enc Ybad.prog W 0 (fun _ => true) true Ybad.f3.params.toList args.toList ds p := hA0
  have hV : DataW.TrodVars enc Ybad.prog W (fun _ => true) [nC, nK] gs q := hV0
  rw [Ybad.params3] at hA hval
  obtain ⟨v0, v1, d0, d1, p0, p1, rfl, rfl, rfl, h0, h1⟩ := trodAll_two hA
  obtain ⟨c, rfl, rfl, rfl⟩ := open_bool Ybad.underlying4 (hval 0 4 v0 rfl rfl) h0
  obtain ⟨k, rfl, rfl, rfl⟩ := open_bool Ybad.underlying4 (hval 1 4 v1 rfl rfl) h1
  obtain ⟨a0, a1, hv0, hv1⟩ := of_laid hL
  obtain ⟨rfl, rfl⟩ := hV.unique (vars_read enc hv0 hv1 trivial trivial _)
  clear hA0 hV0 hval0
  have hg0 : W.cell? ⟨0, 0, none⟩ = some (.iface 86 (.pointer (some a0))) := by simpa using World.var?_cell gC hv0 0
  have hg1 : W.cell? ⟨1, 0, none⟩ = some (.iface 86 (.pointer (some a1))) := by simpa using World.var?_cell gK hv1 0
  have hs : 1 < W.heap.size := World.block_lt_of_cell? W _ hg1
  refine (walk c k a0 a1 W hg0 hg1 hs).mono fun e W' ⟨he, hnx⟩ => ?_
  subst he
  refine ⟨_, rfl, _, _, _, [], [], [.cell 0 0, .cell 1 0], hW', ?_, ?_, ?_, hnx.frame _, fun h => by cases h⟩
  · exact trodAll_mk1 (shut_bool Ybad.underlying4 true)
  · exact trodAll_mk2 (shut_bool Ybad.underlying4 c) (shut_bool Ybad.underlying4 k)
  · exact vars_read enc (var?_below hnx gC (by omega) hv0) (var?_below hnx gK hs hv1) trivial trivial _

theorem row_holds : Rows.LawS1982BOutcomeSaid :=
  OpenClaim.holds_of_wide 3 Ybad.f3 rfl rfl rfl rfl rfl rfl rfl ⟨rfl, rfl, rfl, rfl, rfl⟩ rfl rfl rfl rfl rfl (by kernel_rfl) Ybad.func3 (by kernel_rfl)
    (of_decide_eq_true (by kernel_rfl)) (by unfold Func.isWrapper; first | (rw [if_pos (by decide +kernel)]; kernel_rfl) | (rw [if_neg (by decide +kernel)]; exact ⟨rfl, rfl⟩))
    (fun os started H enc _ => lifted os started H enc)

theorem outcomeCard : Rows.LawS1982BOutcomeCardSaid :=
  Claim7.holds_tied_plain_at .later [] [.sentinel, .sentinel] true (true, Rows.lawS1982BOutcomeCard.stood.harness.2) true
    row_holds (fun _ h => by cases h) (by kernel_rfl) (fun _ h => by cases h) lawS1982BOutcome_row_tie rfl ⟨rfl, rfl⟩ (by kernel_rfl) rfl
    (fun f fn hf hfn => by
      obtain rfl : f = 3 := Option.some.inj ((show Ybad.prog.funcNamed Rows.lawS1982BOutcomeRow.func = some 3 by kernel_rfl).symm.trans hf) |>.symm
      obtain rfl : fn = Ybad.f3 := (Option.some.inj (Ybad.func3.symm.trans hfn)).symm
      exact ⟨by kernel_rfl, fun j t ht => by
        rw [Ybad.params3] at ht
        have h4 : t = 4 := by
          rcases j with _ | _ | j
          · simpa using ht.symm
          · simpa using ht.symm
          · simp at ht
        subst h4
        exact (show Ybad.prog.wantsStandIn 4 = false by kernel_rfl)⟩)
    (by kernel_rfl)
#print axioms outcomeCard
end Go.Proofs.YbulkaoagDoor
