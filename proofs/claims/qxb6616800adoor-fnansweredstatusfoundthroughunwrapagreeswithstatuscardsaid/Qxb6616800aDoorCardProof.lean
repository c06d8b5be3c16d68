import Derived.Test.Qxb6616800aDoorProofs
import Derived.Test.Qxb6616800aDoorTie
import Derived.Test.Qxb6616800aDoorCards
import Derived.SevenTiedAt
namespace Go.Proofs.Qxb6616800aDoor
open Go
set_option maxRecDepth 100000

/-- THE TIED CARD. -/
theorem answered_card : Rows.FnAnsweredStatusFoundThroughUnwrapAgreesWithStatusCardSaid :=
  Claim7.holds_tied_plain_at .later [] [.handle] true Rows.fnAnsweredStatusFoundThroughUnwrapAgreesWithStatusCard.stood.harness true
    row_holds (fun _ h => by cases h) (by kernel_rfl) (fun _ h => by cases h) fnAnsweredStatusFoundThroughUnwrapAgreesWithStatus_row_tie rfl ⟨rfl, rfl⟩ (by kernel_rfl) rfl
    (fun f fn hf hfn => by
      have h3 : some 3 = some f := (show some 3 = _ by kernel_rfl : some 3 = Tryd.prog.funcNamed Rows.fnAnsweredStatusFoundThroughUnwrapAgreesWithStatusRow.func).trans hf
      obtain rfl : f = 3 := (Option.some.inj h3).symm
      obtain rfl : fn = Tryd.f3 := (Option.some.inj (Tryd.func3.symm.trans hfn)).symm
      exact ⟨by kernel_rfl, fun j t ht => by
        rw [Tryd.params3] at ht
        have hm : t ∈ [9, 9, 3, 22] := by simpa using Array.mem_of_getElem? ht
        have hall : ([9, 9, 3, 22].all fun u => !Tryd.prog.wantsStandIn u) = true := by kernel_rfl
        exact (show Tryd.prog.wantsStandIn t = false by simpa using List.all_eq_true.1 hall t hm)⟩)
    (by kernel_rfl)
#print axioms answered_card
end Go.Proofs.Qxb6616800aDoor
