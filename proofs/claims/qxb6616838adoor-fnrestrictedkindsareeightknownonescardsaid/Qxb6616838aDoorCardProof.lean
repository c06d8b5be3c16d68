import Derived.Test.Qxb6616838aDoorProofs
import Derived.Test.Qxb6616838aDoorTie
import Derived.Test.Qxb6616838aDoorCards
import Derived.SevenTiedAt
namespace Go.Proofs.Qxb6616838aDoor
open Go
set_option maxRecDepth 100000

/-- THE TIED CARD. -/
theorem restricted_card : Rows.FnRestrictedKindsAreEightKnownOnesCardSaid :=
  Claim7.holds_tied_plain_at .later [] [.widerDeep] true Rows.fnRestrictedKindsAreEightKnownOnesCard.stood.harness false
    row_holds (fun _ h => by cases h) (by kernel_rfl) (fun _ h => by cases h) fnRestrictedKindsAreEightKnownOnes_row_tie rfl ⟨rfl, rfl⟩ (by kernel_rfl) rfl
    (fun f fn hf hfn => by
      have h3 : some 3 = some f := (show some 3 = _ by kernel_rfl : some 3 = Tryd.prog.funcNamed Rows.fnRestrictedKindsAreEightKnownOnesRow.func).trans hf
      obtain rfl : f = 3 := (Option.some.inj h3).symm
      obtain rfl : fn = Tryd.f3 := (Option.some.inj (Tryd.func3.symm.trans hfn)).symm
      exact ⟨by kernel_rfl, fun j t ht => by
        rw [Tryd.params3] at ht
        simp at ht⟩)
    (by kernel_rfl)
#print axioms restricted_card
end Go.Proofs.Qxb6616838aDoor
