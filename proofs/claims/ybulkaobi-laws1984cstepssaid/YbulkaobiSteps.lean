/-
  stepsOf.
-/
import Derived.Test.YbulkaobiStep
import Derived.OwnWalk
import Derived.Maps.AppendAt
namespace Go.Proofs.Ybulkaobi
open Go.RowKit
set_option linter.unusedSimpArgs false
set_option linter.unusedVariables false

theorem Yba.info93 : (Yba.prog.info? 93).map (fun i => (i.zero, i.size, i.bytes)) = some (some (.agg #[.int .i64 0, .int .i64 0, .int .i64 0, .slice none 0 0, .int .u64 0, .slice none 0 0]), 6, 80) := by kernel_rfl

theorem wpList_buildStep {ops : Array Oper} {rest : List Oper} {o : Oper} {a : Act} {w : World} {Q : Exit → Act → World → Prop} (hgd : o.guard = none) (x : Operand) (hop : o.op = Op.buildSlice 88 1 #[(0, x)])
    {m : Int} {F : Nat → Int} {D : Nat → Value} {pv : Value} {inp : Int} (po : Option Addr) (pn pc : Nat) (hpv : pv = .slice po pn pc) (hD : ∀ t, ∃ dO dn dc, D t = .slice dO dn dc) (hx : a.eval x = .agg (stepv m F D pv inp).toArray)
    (h : wpList Yba.prog ops Q rest (a.put o.dst (.slice (some ⟨w.heap.size, 0, none⟩) 1 1)) (w.alloc (.cells (stepv m F D pv inp).toArray 93 (0, 0)))) : wpList Yba.prog ops Q (o :: rest) a w := by
  subst hpv
  have hcase : inp < 0 ∨ 0 ≤ inp := by omega
  rcases hcase with hn | hn
  · rw [stepv_neg hn] at hx h
    refine wpList_plain hgd fun _ hK => ?_
    have h' := hK _ _ h
    clear h hK
    unfold Oper.wp
    simp only [execOp, hop, List.map_toArray, List.map_cons, List.map_nil, hx]
    go_simp
    exact h'
  · obtain ⟨t, rfl⟩ : ∃ t : Nat, inp = t := ⟨inp.toNat, by omega⟩
    rw [stepv_pos t] at hx h
    obtain ⟨dO, dn, dc, hd⟩ := hD t
    rw [hd] at h hx
    refine wpList_plain hgd fun _ hK => ?_
    have h' := hK _ _ h
    clear h hK
    unfold Oper.wp
    simp only [execOp, hop, List.map_toArray, List.map_cons, List.map_nil, hx]
    go_simp
    exact h'


/-- The inputs ahead, as stepsOf reads them. -/
def Ahead (w : World) (nm : Nat) (bo : Option Addr) (nb : Nat) (bx : Nat → Int) : Prop := 0 < nb → ∃ b, bo = some ⟨b, 0, none⟩ ∧ ∀ j, j < nb → w.cell? ⟨b, j, none⟩ = some (.int .i32 (bx j)) ∧ okIn nm (bx j)
theorem Ahead.up {w w' : World} {nm : Nat} {bo : Option Addr} {nb : Nat} {bx : Nat → Int} (h : Ahead w nm bo nb bx) (hb : Below w.heap.size w w') : Ahead w' nm bo nb bx := fun hn => by
  obtain ⟨b, h1, h2⟩ := h hn
  exact ⟨b, h1, fun j hj => ⟨cell_up (h2 j hj).1 hb, (h2 j hj).2⟩⟩

/-- The steps that stepsOf gives. -/
def gOf (m : Int) (F : Nat → Int) (D : Nat → Value) (pv : Value) (nb : Nat) (bx : Nat → Int) (inp : Int) (j : Nat) : List Value := if j < nb then stepv m F D (.slice none 0 0) (bx j) else stepv m F D pv inp

theorem gOf_len (m : Int) (F : Nat → Int) (D : Nat → Value) (pv : Value) (nb : Nat) (bx : Nat → Int) (inp : Int) (j : Nat) : (gOf m F D pv nb bx inp j).length = 6 := by unfold gOf; split <;> exact stepv_len _ _ _ _ _

theorem own_up {w w' : World} {base e size n : Nat} {v : Value} {xs : List Value} (h : w.ownsRow base e size v n xs) (hb : Below w.heap.size w w') : w'.ownsRow base e size v n xs := by
  obtain ⟨h1, h2 | ⟨g, cap, cur, h2, h3, h4, h5⟩⟩ := h
  · exact ⟨h1, Or.inl h2⟩
  · have hg : g < w.heap.size := by
      rcases Nat.lt_or_ge g w.heap.size with h | h
      · exact h
      · rw [Array.getElem?_eq_none h] at h4; exact absurd h4 (by simp)
    exact ⟨h1, Or.inr ⟨g, cap, cur, h2, h3, by rw [hb.block g hg]; exact h4, h5⟩⟩
theorem own_low {w : World} {base base' e size n : Nat} {v : Value} {xs : List Value} (h : w.ownsRow base e size v n xs) (hb : base' ≤ base) : w.ownsRow base' e size v n xs := by
  obtain ⟨h1, h2 | ⟨g, cap, cur, h2, h3, h4⟩⟩ := h
  · exact ⟨h1, Or.inl h2⟩
  · exact ⟨h1, Or.inr ⟨g, cap, cur, h2, by omega, h4⟩⟩
theorem own_block {w : World} {base e size n : Nat} {v : Value} {xs : List Value} (h : w.ownsRow base e size v n xs) : ∀ k, v.ownBlock = some k → base ≤ k := by
  intro k hk
  obtain ⟨h1, ⟨rfl, _⟩ | ⟨g, cap, cur, rfl, h3, h4⟩⟩ := h
  · simp [Value.ownBlock] at hk
  · simp [Value.ownBlock] at hk; omega

theorem cells_new (w : World) (l : List Value) (t : TypeId) : ∀ j u, l[j]? = some u → (w.alloc (.cells l.toArray t)).cell? ((⟨w.heap.size, 0, none⟩ : Addr).add j) = some u := by
  intro j u hj
  cases j with
  | zero => simp [Addr.add, hj]
  | succ j => simp [Addr.add, hj]

theorem step_one (m : Int) (F : Nat → Int) (D : Nat → Value) (pv : Value) (po : Option Addr) (pn pc : Nat) (hpv : pv = .slice po pn pc) (hD : ∀ t, ∃ dO dn dc, D t = .slice dO dn dc) (inp : Int) : ∀ u ∈ stepv m F D pv inp, u.oneCell' = true := by
  subst hpv
  intro u hu
  obtain ⟨dO, dn, dc, hd⟩ := hD inp.toNat
  unfold stepv at hu
  split at hu
  · simp [stepN] at hu
    rcases hu with rfl | rfl | rfl | rfl | rfl | rfl <;> rfl
  · simp [stepP, hd] at hu
    rcases hu with rfl | rfl | rfl | rfl | rfl | rfl <;> rfl

theorem low_trans {B : Nat} {w wr w2 : World} (h : Below B w wr) (hB : B ≤ wr.heap.size) (h2 : Below wr.heap.size wr w2) : Below B w w2 := h.trans (h2.mono hB)

set_option maxHeartbeats 800000 in
set_option maxRecDepth 20000 in
theorem steps_all {S cb M i nc cc nm : Nat} {m : Int} {F : Nat → Int} {D : Nat → Value} (hD : ∀ t, ∃ dO dn dc, D t = .slice dO dn dc) (hnm : nm ≤ 1024) (hi : i < nc) (hnc : nc ≤ 1024) (inp : Int) (ho : okIn nm inp) (po bo : Option Addr) (pn pc nb bc : Nat) (bx : Nat → Int) (hnb : nb ≤ 1024) (w : World) (h : Env S cb M i nc cc nm m F D w) (ha : Ahead w nm bo nb bx) :
    Calls Yba.prog 10 #[.pointer (some ⟨S, 0, none⟩), .int .i64 (i : Int), .agg #[.int .i32 0, .int .i32 0, .slice po pn pc, .pointer none, .slice bo nb bc, .int .i32 inp]] w fun e w' =>
      ∃ v, e = .returned v ∧ w'.ownsRow w.heap.size 93 6 v (nb + 1) (rowsTo (gOf m F D (.slice po pn pc) nb bx inp) (nb + 1)) ∧ Below w.heap.size w w' := by
  have H1 : Hid (Env S cb M i nc cc nm m F D w) := h
  have H2 : Hid (Ahead w nm bo nb bx) := ha
  have H3 : Hid (∀ t, ∃ dO dn dc, D t = .slice dO dn dc) := hD
  have H4 : Hid (okIn nm inp) := ho
  clear h ha hD ho
  obtain ⟨i0, hi0, hz0, hz1, hz2⟩ := info_parts Yba.info93
  have HI : Hid (Yba.prog.info? 93 = some i0) := hi0
  clear hi0
  obtain ⟨g, hg⟩ : ∃ g, g = gOf m F D (.slice po pn pc) nb bx inp := ⟨_, rfl⟩
  have HG : Hid (g = gOf m F D (.slice po pn pc) nb bx inp) := hg
  rw [← hg]
  clear hg
  go_enter Yba.func10, Yba.ntmps10
  go_wp2
  go_loopw [14, 7, 9] (fun c v x wr => ∃ k : Nat, k ≤ nb ∧ c = .int .i64 k ∧ wr.ownsRow (w.heap.size + 1) 93 6 v k (rowsTo g k) ∧ Below (w.heap.size + 1) (w.alloc (.cells #[.int .i32 0, .int .i32 0, .slice po pn pc, .pointer none, .slice bo nb bc, .int .i32 inp] 87 (0, 0))) wr) (fun c _ _ _ => nb - (intOf c).toNat)
  case atStart => exact ⟨0, Nat.zero_le _, rfl, World.ownsRow_nil _ _ _ _, Below.refl _ _⟩
  case round =>
    obtain ⟨k, hk, rfl, hown, hbel⟩ := hrel
    have hsz : w.heap.size + 1 ≤ wr.heap.size := by have := hbel.size; simpa using this
    have hb0 : Below w.heap.size w wr := ((Below.refl _ _).alloc (Nat.le_refl _) _).trans (hbel.mono (by omega))
    have HE : Hid (Env S cb M i nc cc nm m F D wr) := H1.out.up hb0
    by_cases hlt : k < nb
    · obtain ⟨b, rfl, hc⟩ := H2.out (by omega)
      obtain ⟨hc1, hok⟩ := hc k hlt
      have hc2 : wr.cell? ⟨b, k, none⟩ = some (.int .i32 (bx k)) := cell_up hc1 hb0
      have HK : Hid (okIn nm (bx k)) := hok
      clear hc hc1 hok
      have hlt' : (k : Int) < (nb : Int) := by omega
      have hgk : g k = stepv m F D (.slice none 0 0) (bx k) := by rw [HG.out]; simp [gOf, hlt]
      have HGK : Hid (g k = stepv m F D (.slice none 0 0) (bx k)) := hgk
      clear hgk
      go_wp2_with (first
        | (go_at_call 12; refine (step_all H3.out hnm hi hnc (bx k) HK.out none none 0 0 0 0 wr HE.out).mono ?_; rintro e w2 ⟨rfl, hb2⟩)
        | (refine wpList_buildStep rfl (.tmp 23) rfl none 0 0 rfl H3.out rfl ?_)
        | (at_builtin; refine wpList_append_own _ rfl (.tmp 18) (.tmp 24) 88 rfl (w.heap.size + 1) 93 i0 _ 6 80 Yba.underlying88 HI.out hz0 hz1 hz2 rfl (by decide) _ _ _ rfl ((own_up hown hb2).alloc _) ⟨w2.heap.size, 0, none⟩ 1 1 (stepv m F D (.slice none 0 0) (bx k)) rfl (stepv_len _ _ _ _ _) (cells_new _ _ _) (step_one m F D _ none 0 0 rfl H3.out _) (by unfold maxLen; omega) (by omega) (by have := hb2.size; simp; omega) ?_; intro v' w3 hown' hgrow hnil))
      go_roundw
      case rel => exact ⟨k + 1, hlt, by go_num, by rw [rowsTo, HGK.out]; exact hown', ((low_trans hbel hsz hb2).alloc (by have := hb2.size; omega) _).grown hgrow (by have := hb2.size; simp; omega) (own_block hown)⟩
      case measure => simp [intOf]; omega
    · have hkn : k = nb := by omega
      have hgk : g k = stepv m F D (.slice po pn pc) inp := by rw [HG.out]; simp [gOf, hlt]
      have HGK : Hid (g k = stepv m F D (.slice po pn pc) inp) := hgk
      clear hgk
      have hcell : ∀ j u, [Value.int .i32 0, .int .i32 0, .slice po pn pc, .pointer none, .slice bo nb bc, .int .i32 inp][j]? = some u → wr.cell? ⟨w.heap.size, j, none⟩ = some u := by
        intro j u hj
        rw [hbel.cell (by simp)]
        simp [hj]
      have q0 := hcell 0 _ rfl
      have q1 := hcell 1 _ rfl
      have q2 := hcell 2 _ rfl
      have q3 := hcell 3 _ rfl
      have q4 := hcell 4 _ rfl
      have q5 := hcell 5 _ rfl
      clear hcell
      go_wp2_with (first
        | (go_at_call 12; refine (step_all H3.out hnm hi hnc inp H4.out po bo pn pc nb bc wr HE.out).mono ?_; rintro e w2 ⟨rfl, hb2⟩)
        | (refine wpList_buildStep rfl (.tmp 31) rfl po pn pc rfl H3.out rfl ?_)
        | (at_builtin; refine wpList_append_own _ rfl (.tmp 27) (.tmp 32) 88 rfl (w.heap.size + 1) 93 i0 _ 6 80 Yba.underlying88 HI.out hz0 hz1 hz2 rfl (by decide) _ _ _ rfl ((own_up hown hb2).alloc _) ⟨w2.heap.size, 0, none⟩ 1 1 (stepv m F D (.slice po pn pc) inp) rfl (stepv_len _ _ _ _ _) (cells_new _ _ _) (step_one m F D _ po pn pc rfl H3.out _) (by unfold maxLen; omega) (by omega) (by have := hb2.size; simp; omega) ?_; intro v' w3 hown' hgrow hnil))
      go_ret
      subst hkn
      exact ⟨_, rfl, by rw [rowsTo, HGK.out]; exact own_low hown' (by omega), ((low_trans hb0 (by omega) hb2).alloc (by have := hb2.size; omega) _).grown hgrow (by have := hb2.size; simp; omega) (fun j hj => by have := own_block hown j hj; omega)⟩

end Go.Proofs.Ybulkaobi
