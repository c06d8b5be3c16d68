import Derived.Test.Qxb6616838aDoorRows
import Derived.Test.Qxb6616838aDoorWalks
import Derived.ProofKit
import Derived.OpenShut
import Derived.ChangeOld
import Derived.ChangeVars
import Derived.Below
import Derived.LaidLaws
import Derived.LaidHandle
import Derived.LaidMore
import Derived.Stop.Joined
namespace Go.Proofs.Qxb6616838aDoor
open Go.ChangeShapes Go.WideShapes Go.ChangeAt Go.RowKit
set_option linter.unusedVariables false

theorem own : ownKnob Tryd.prog.godebug = none := by kernel_rfl
theorem laidOut : laidOutB Tryd.prog = true := by kernel_rfl
theorem cells28 : Tryd.prog.cellsOf 28 = 3 := by kernel_rfl
theorem cells29 : Tryd.prog.cellsOf 29 = 45 := by kernel_rfl
theorem cells4 : Tryd.prog.cellsOf 4 = 1 := by kernel_rfl
theorem tKinds : (Tryd.prog.globals[0]?).map (·.type) = some 29 := by kernel_rfl

/-- The door's own heap meets the condition. -/
theorem door_met (os : Os) (args : Array Value) : laidMetH Tryd.prog Rows.fnRestrictedKindsAreEightKnownOnesRow.laid ((World.doorLaid Tryd.prog 29 os).forCall (fun _ _ => 0) ⟨#[], args, []⟩).memory :=
  laidMetH_of_parts3 (fuel := 8) (laidMet_of_run' 8 (by kernel_rfl) (by kernel_rfl)) (by kernel_rfl) (by kernel_rfl)

/-- The third part of each listed element says whether it is restricted. -/
theorem listed (j : Nat) (hj : j < 15) : ∃ (l : List (DataW Unit)) (n k : DataW Unit), (Rows.laid_example_com_tidechord_tidechord_internal_wire_kinds : DataW Unit) = .agg l ∧ l[j]? = some (.agg [n, k, .lit (.bool (restB (j + 1)))]) := by
  match j, hj with
  | 0, _ => exact ⟨_, _, _, rfl, rfl⟩
  | 1, _ => exact ⟨_, _, _, rfl, rfl⟩
  | 2, _ => exact ⟨_, _, _, rfl, rfl⟩
  | 3, _ => exact ⟨_, _, _, rfl, rfl⟩
  | 4, _ => exact ⟨_, _, _, rfl, rfl⟩
  | 5, _ => exact ⟨_, _, _, rfl, rfl⟩
  | 6, _ => exact ⟨_, _, _, rfl, rfl⟩
  | 7, _ => exact ⟨_, _, _, rfl, rfl⟩
  | 8, _ => exact ⟨_, _, _, rfl, rfl⟩
  | 9, _ => exact ⟨_, _, _, rfl, rfl⟩
  | 10, _ => exact ⟨_, _, _, rfl, rfl⟩
  | 11, _ => exact ⟨_, _, _, rfl, rfl⟩
  | 12, _ => exact ⟨_, _, _, rfl, rfl⟩
  | 13, _ => exact ⟨_, _, _, rfl, rfl⟩
  | 14, _ => exact ⟨_, _, _, rfl, rfl⟩

/-- One element of the table. -/
theorem third {W : World} {base fuel : Nat} {sp : Nat → Bool} {held : Bool} {enc : TypeId × Value → Unit} {cs : List Value} {n k : DataW Unit} {b : Bool} {p : List MemPlace}
    (h : DataW.trod enc Tryd.prog W base sp held fuel 28 cs = some (.agg [n, k, .lit (.bool b)], p)) : cs[2]? = some (.bool b) := by
  obtain ⟨xs, m, _, hx, hl, hlen, hf⟩ := DataW.trod_struct Tryd.underlying28 h
  rw [cells28] at hl
  match xs, hlen with
  | [y0, y1, y2], _ =>
    match cs, hl with
    | [c0, c1, c2], _ =>
      have f2 := hf 2 _ rfl
      simp [cells4] at f2
      obtain ⟨b2, e2, e3⟩ := DataW.trod_bool Tryd.underlying4 f2
      simp at e2
      subst e2 e3
      simp at hx
      simp [hx]

theorem of_laid {W : World} (h : laidMetH Tryd.prog Rows.fnRestrictedKindsAreEightKnownOnesRow.laid W) : Table W := by
  rw [MakeChecks.laidMetH_plain _ _ _ (by kernel_rfl)] at h
  obtain ⟨ps, ⟨g0, t0, cs0, f0, p0, q0, hg0, ht0, hv0, hd0, _⟩, _, _⟩ := h
  have e0 : some g0 = some 0 := hg0.symm.trans (by kernel_rfl)
  obtain rfl := Option.some.inj e0
  obtain rfl := Option.some.inj (tKinds.symm.trans ht0)
  intro j hj
  obtain ⟨l, n, k, el, hl⟩ := listed j hj
  obtain ⟨xs, m, _, hx, hlen, hn, hel⟩ := DataW.trod_array Tryd.underlying29 hd0
  have hx1 : (Rows.laid_example_com_tidechord_tidechord_internal_wire_kinds : DataW Unit) = .agg (xs.map (·.1)) := congrArg Prod.fst hx
  rw [el] at hx1
  simp only [DataW.agg.injEq] at hx1
  have hj' := hel j hj
  rw [cells28] at hj'
  have hxs : ∃ y, xs[j]? = some y ∧ y.1 = .agg [n, k, .lit (.bool (restB (j + 1)))] := by
    rw [hx1, List.getElem?_map] at hl
    cases hy : xs[j]? with
    | none => rw [hy] at hl; cases hl
    | some y => rw [hy] at hl; exact ⟨y, rfl, by simpa using hl⟩
  obtain ⟨y, hy, hy1⟩ := hxs
  rw [hy] at hj'
  obtain ⟨y1, y2⟩ := y
  simp only at hy1
  subst hy1
  have ht := third hj'
  have hcell := World.var?_cell hg0 hv0 (j * 3 + 2)
  rw [hcell]
  simpa using ht

set_option maxRecDepth 100000 in
theorem lifted (os : Os) (started : os.Started) (H : Type) (enc : TypeId × Value → H) :
    ReturnsInHanded {} Tryd.checked os 3 .any (fun w args => (Rows.fnRestrictedKindsAreEightKnownOnesSpec.pre enc Tryd.prog Tryd.f3 [] false w args ∧ laidMetH Tryd.prog Rows.fnRestrictedKindsAreEightKnownOnesRow.laid w) ∧ sizedMet enc Tryd.prog Tryd.f3 (OpenSpec.ofChange Rows.fnRestrictedKindsAreEightKnownOnesSpec) false w args)
      (Rows.fnRestrictedKindsAreEightKnownOnesSpec.post enc Tryd.prog Tryd.f3 false true false false) := by
  refine returnsInHanded_of_change_and (C := Tryd.checked) (X := fun w _ => laidMetH Tryd.prog Rows.fnRestrictedKindsAreEightKnownOnesRow.laid w) (fun _ _ _ hh h => h.of_heap hh) own started (by kernel_rfl) Tryd.func3
    (ChangeSpec.witness_shaped (enc := enc) (C := Tryd.checked) (os := os) (X := fun w _ => laidMetH Tryd.prog Rows.fnRestrictedKindsAreEightKnownOnesRow.laid w) false (World.doorLaid Tryd.prog 29 os) #[] 8 rfl (World.shaped_of_RefB (by kernel_rfl) (by kernel_rfl)) (by kernel_rfl) (by kernel_rfl) (by kernel_rfl) (door_met os _)) ?_
  intro W base args ds gs before hval0 hW _ _ hL _
  have hW' := hW
  obtain ⟨p, q, hA0, hV, rfl, hfz, hnd⟩ := hW
  have hA : DataW.TrodAll enc Tryd.prog W 0 (fun _ => true) true Tryd.f3.params.toList args.toList ds p := hA0
  rw [Tryd.params3] at hA
  obtain ⟨hargs, rfl, rfl⟩ := trodAll_nil hA
  obtain rfl : args = #[] := by cases args; simp_all
  obtain ⟨g, t, cs, fuel, d, pp, rfl, h1, h2, h3, h4, rfl⟩ := trodVars_one hV
  have e0 : some g = some 0 := h1.symm.trans (by kernel_rfl)
  obtain rfl := Option.some.inj e0
  obtain rfl := Option.some.inj (tKinds.symm.trans h2)
  have hT := of_laid hL
  clear hA0 hval0 hL
  have kv : DataW.Trod enc Tryd.prog W 0 (fun _ => true) true 29 (.agg cs) d pp := ⟨fuel, h4⟩
  have ltv : ∀ x ∈ pp, x.block < W.heap.size := DataW.trod_lt fuel _ _ _ h4
  refine (walk W hT).mono fun e W' ⟨he, hw⟩ => ?_
  subst he
  subst hw
  obtain ⟨fuel', h4'⟩ := Below.trod laidOut (by kernel_rfl) (of_decide_eq_true (by kernel_rfl)) kv (Below.refl W.heap.size W) ltv
  exact ⟨_, rfl, _, _, _, [], [], _, hW', trodAll_mk1 (shut_bool Tryd.underlying4 _), trodAll_mk0, trodVars_mk1 h1 h2 h3 h4', (Below.refl W.heap.size W).frame _, fun h => by cases h⟩

theorem row_holds : Rows.FnRestrictedKindsAreEightKnownOnesSaid :=
  OpenClaim.holds_of_wide 3 Tryd.f3 rfl rfl rfl rfl rfl rfl rfl ⟨rfl, rfl, rfl, rfl, rfl⟩ rfl rfl rfl rfl rfl (by kernel_rfl) Tryd.func3 (by kernel_rfl)
    (of_decide_eq_true (by kernel_rfl)) (by unfold Func.isWrapper; first | (rw [if_pos (by decide +kernel)]; kernel_rfl) | (rw [if_neg (by decide +kernel)]; exact ⟨rfl, rfl⟩))
    (fun os started H enc _ => lifted os started H enc)
#print axioms row_holds
end Go.Proofs.Qxb6616838aDoor
