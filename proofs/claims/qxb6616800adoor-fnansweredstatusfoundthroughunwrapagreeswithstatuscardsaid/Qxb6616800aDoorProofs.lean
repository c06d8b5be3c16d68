import Derived.Test.Qxb6616800aDoorRows
import Derived.Test.Qxb6616800aDoorWalksC
import Derived.ProofKit
import Derived.OpenShut
import Derived.ShutString
import Derived.ChangeOld
import Derived.Below
import Derived.Deep.Slices
import Derived.LaidLaws
import Derived.LaidHandle
import Derived.LaidMore
import Derived.Stop.Joined
namespace Go.Proofs.Qxb6616800aDoor
open Go.ChangeShapes Go.WideShapes Go.ChangeAt Go.RowKit
open Go.Deep (open_slice1)
open Go.ChangeMaps (open_string shut_string)
set_option linter.unusedVariables false

theorem own : ownKnob Tryd.prog.godebug = none := by kernel_rfl
theorem laidOut : laidOutB Tryd.prog = true := by kernel_rfl
theorem cells9 : Tryd.prog.cellsOf 9 = 1 := by kernel_rfl
theorem gET : Tryd.prog.globalNamed "errors.errorType" = some 0 := by kernel_rfl
theorem oneRow : ((List.range 206).filter fun t => Tryd.prog.rowNamed t [101, 114, 114, 111, 114]) = [40] := by kernel_rfl
theorem tsize : Tryd.prog.types.size = 206 := by kernel_rfl

/-- WHAT THE CONDITION GIVES A WALK: the variable's one cell. -/
theorem handle_of_laid {W : World} (h : laidMetH Tryd.prog Rows.fnAnsweredStatusFoundThroughUnwrapAgreesWithStatusRow.laid W) : errType W := by
  have h' : laidMet Tryd.prog [] W ∧ handlesMet Tryd.prog Rows.fnAnsweredStatusFoundThroughUnwrapAgreesWithStatusRow.laid W := h
  obtain ⟨name, u, ty, e1, e2, e3, e4, e5⟩ := h'.2 _ (List.mem_singleton.2 rfl)
  have en : name = [101, 114, 114, 111, 114] := (Option.some.inj e1).symm
  subst en
  have eu : some u = some 70 := e2.symm.trans (by kernel_rfl)
  obtain rfl := Option.some.inj eu
  have hm : ty ∈ (List.range 206).filter fun t => Tryd.prog.rowNamed t [101, 114, 114, 111, 114] := List.mem_filter.2 ⟨List.mem_range.2 (by rw [← tsize]; exact e3), e4⟩
  rw [oneRow] at hm
  obtain rfl := List.mem_singleton.1 hm
  have hh : typeHandle Tryd.prog 40 = .pointer (some ⟨1, 40, none⟩) := by kernel_rfl
  rw [hh] at e5
  simpa using World.var?_cell gET e5 0

/-- The door's own heap meets the condition. -/
theorem door_met (os : Os) (args : Array Value) : laidMetH Tryd.prog Rows.fnAnsweredStatusFoundThroughUnwrapAgreesWithStatusRow.laid ((World.doorLaid Tryd.prog 16 os).forCall (fun _ _ => 0) ⟨#[], args, []⟩).memory :=
  laidMetH_of_parts (laidMet_nil _ _) (by kernel_rfl)

theorem open_strs {H : Type} {enc : TypeId × Value → H} {W : World} {base : Nat} {held : Bool} {fuel n c : Nat} {s : Option Addr} {x : DataW H × List MemPlace}
    (h : DataW.trod enc Tryd.prog W base (fun _ => true) held fuel 22 [.slice s n c] = some x) : ∃ F : Nat → ByteArray, StrAt W s n F ∧ (s = none → n = 0 ∧ c = 0) := by
  rcases open_slice1 Tryd.underlying22 cells9 h with ⟨hcs, _⟩ | ⟨a, len, cap, m, q, V, D, Pl, hcs, hb, hl, hm, hmm, _, hx⟩
  · simp at hcs
    obtain ⟨rfl, rfl, rfl⟩ := hcs
    exact ⟨fun _ => ⟨#[]⟩, fun k hk => by omega, fun _ => ⟨rfl, rfl⟩⟩
  · simp at hcs
    obtain ⟨rfl, rfl, rfl⟩ := hcs
    simp at hmm
    subst hmm
    have one : ∀ i, i < n → ∃ y : ByteArray, ∃ b off, (some a) = some (⟨b, off, none⟩ : Addr) ∧ W.cell? ⟨b, off + i, none⟩ = some (.string y) := by
      intro i hi
      obtain ⟨b, off, spot⟩ := a
      have hspot : spot = none := by
        have h0 := (hx 0 (by omega)).1
        simpa [Addr.add] using World.cell?_spot h0
      subst hspot
      obtain ⟨h1, h2⟩ := hx i (by omega)
      obtain ⟨y, e, _⟩ := DataW.trod_string Tryd.underlying9 h2
      simp at e
      rw [e, add_plain] at h1
      exact ⟨y, b, off, rfl, h1⟩
    refine ⟨fun i => if hi : i < n then Classical.choose (one i hi) else ⟨#[]⟩, fun k hk => ?_, fun h => by cases h⟩
    simp only [dif_pos hk]
    exact Classical.choose_spec (one k hk)

set_option maxRecDepth 100000 in
theorem lifted (os : Os) (started : os.Started) (H : Type) (enc : TypeId × Value → H) :
    ReturnsInHanded {} Tryd.checked os 3 .any (fun w args => (Rows.fnAnsweredStatusFoundThroughUnwrapAgreesWithStatusSpec.pre enc Tryd.prog Tryd.f3 [] false w args ∧ laidMetH Tryd.prog Rows.fnAnsweredStatusFoundThroughUnwrapAgreesWithStatusRow.laid w) ∧ sizedMet enc Tryd.prog Tryd.f3 (OpenSpec.ofChange Rows.fnAnsweredStatusFoundThroughUnwrapAgreesWithStatusSpec) false w args)
      (Rows.fnAnsweredStatusFoundThroughUnwrapAgreesWithStatusSpec.post enc Tryd.prog Tryd.f3 false true false false) := by
  refine returnsInHanded_of_change_and (C := Tryd.checked) (X := fun w _ => laidMetH Tryd.prog Rows.fnAnsweredStatusFoundThroughUnwrapAgreesWithStatusRow.laid w) (fun _ _ _ hh h => h.of_heap hh) own started (by kernel_rfl) Tryd.func3
    (ChangeSpec.witness_shaped (enc := enc) (C := Tryd.checked) (os := os) (X := fun w _ => laidMetH Tryd.prog Rows.fnAnsweredStatusFoundThroughUnwrapAgreesWithStatusRow.laid w) false (World.doorLaid Tryd.prog 16 os) #[.string ⟨#[]⟩, .string ⟨#[]⟩, .int .i64 0, .slice none 0 0] 8 rfl (World.shaped_of_RefB (by kernel_rfl) (by kernel_rfl)) (by kernel_rfl) (by kernel_rfl) (by kernel_rfl) (door_met os _)) ?_
  intro W base args ds gs before hval0 hW _ _ hL _
  have hval : ∀ (j : Nat) t v, Tryd.f3.params[j]? = some t → args[j]? = some v → Value.okWide Tryd.prog W .any base t v := hval0
  have hW' := hW
  obtain ⟨p, q, hA0, hV, rfl, hfz, hnd⟩ := hW
  have hA : DataW.TrodAll enc Tryd.prog W 0 (fun _ => true) true Tryd.f3.params.toList args.toList ds p := hA0
  rw [Tryd.params3] at hA hval
  obtain ⟨v0, vs0, d0, ds0, p0, q0, hargs, rfl, rfl, h0, r0⟩ := trodAll_cons hA
  obtain ⟨v1, vs1, d1, ds1, p1, q1, rfl, rfl, rfl, h1, r1⟩ := trodAll_cons r0
  obtain ⟨v2, vs2, d2, ds2, p2, q2, rfl, rfl, rfl, h2, r2⟩ := trodAll_cons r1
  obtain ⟨v3, vs3, d3, ds3, p3, q3, rfl, rfl, rfl, h3, r3⟩ := trodAll_cons r2
  obtain ⟨rfl, rfl, rfl⟩ := trodAll_nil r3
  obtain rfl : args = #[v0, v1, v2, v3] := by cases args; simp_all
  obtain ⟨rfl, rfl⟩ := trodVars_none hV
  obtain ⟨s0, rfl, rfl, rfl, hs0⟩ := open_string Tryd.underlying9 (hval 0 9 v0 rfl rfl) h0
  obtain ⟨s1, rfl, rfl, rfl, hs1⟩ := open_string Tryd.underlying9 (hval 1 9 v1 rfl rfl) h1
  obtain ⟨n2, rfl, rfl, rfl, w2⟩ := open_int Tryd.underlying3 (hval 2 3 v2 rfl rfl) h2
  obtain ⟨a3, len3, cap3, rfl⟩ := okWide_slice Tryd.underlying22 (hval 3 22 v3 rfl rfl)
  have k3 := h3
  have lt3 : ∀ x ∈ p3, x.block < W.heap.size := by obtain ⟨m, hm⟩ := k3; exact DataW.trod_lt m _ _ _ hm
  obtain ⟨F, hF, sF⟩ : ∃ F : Nat → ByteArray, StrAt W a3 len3 F ∧ (a3 = none → len3 = 0 ∧ cap3 = 0) := by
    obtain ⟨fuel, hf⟩ := h3
    exact open_strs hf
  have hg := handle_of_laid hL
  clear hA0 hval0 hL
  refine (walk s0 s1 n2 a3 len3 cap3 F W hF sF hg).mono fun e W' ⟨he, bel⟩ => ?_
  subst he
  exact ⟨_, rfl, _, _, _, [], _, [], hW', trodAll_mk1 (shut_bool Tryd.underlying4 _), (trodAll_cons_mk (shut_string Tryd.underlying9 hs0) (trodAll_cons_mk (shut_string Tryd.underlying9 hs1) (trodAll_cons_mk (shut_int Tryd.underlying3 w2) (trodAll_cons_mk (Below.trod laidOut (by kernel_rfl) (of_decide_eq_true (by kernel_rfl)) k3 bel lt3) trodAll_mk0)))), rfl, bel.frame _, fun h => by cases h⟩

theorem row_holds : Rows.FnAnsweredStatusFoundThroughUnwrapAgreesWithStatusSaid :=
  OpenClaim.holds_of_wide 3 Tryd.f3 rfl rfl rfl rfl rfl rfl rfl ⟨rfl, rfl, rfl, rfl, rfl⟩ rfl rfl rfl rfl rfl (by kernel_rfl) Tryd.func3 (by kernel_rfl)
    (of_decide_eq_true (by kernel_rfl)) (by unfold Func.isWrapper; first | (rw [if_pos (by decide +kernel)]; kernel_rfl) | (rw [if_neg (by decide +kernel)]; exact ⟨rfl, rfl⟩))
    (fun os started H enc _ => lifted os started H enc)
#print axioms row_holds
end Go.Proofs.Qxb6616800aDoor
