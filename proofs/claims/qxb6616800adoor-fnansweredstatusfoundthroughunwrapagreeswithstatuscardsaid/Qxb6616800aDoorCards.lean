/-
  DERIVED. GIVEN WITH THE SEED: THE CARDS: each row of Qxb6616800aDoorRows.lean that lists a variable, with what it lists TIED to the program's text (the seventh form; the later family's looks); each row that meets fmt, with fmt's text TOLD by the authors' own Lean function (tested against real Go, not proved from fmt's source: count such statements apart). THE CARD IS WHAT COUNTS. Prove the row's statement (the work); the ties are given (Qxb6616800aDoorTie.lean); close each card by the builder's one call (the guide's Derived/Test/ToyasCard.lean, 'card_holds'). Laid BY PROGRAM, IN A SANDBOX (cutbox-door.mjs). By AI agents, Wed Nov 11 2026. No macro, syntax, notation, axiom, sorry.
-/
import Derived.Test.Qxb6616800aDoorRows
import GoSem.ClaimSeven
namespace Go.Proofs.Qxb6616800aDoor
namespace Rows

/-- THE TIED CARD OF 'zzlaws_gitexec_b1.FnAnsweredStatusFoundThroughUnwrapAgreesWithStatus'. -/
def fnAnsweredStatusFoundThroughUnwrapAgreesWithStatusCard : Claim7 := { stood := { row := fnAnsweredStatusFoundThroughUnwrapAgreesWithStatusRow, standIns := [], harness := (true, "fedd49a4b8ab56d1174692c49deaabb23308e11efb162bf0367730d16275897f"), looks := true }, kinds := [], alts := [], laidByText := true, laidKinds := [.handle], laidTests := true, laidLooks := .later }
def FnAnsweredStatusFoundThroughUnwrapAgreesWithStatusCardSaid : Prop := Claim7.holds Tryd.pinned (.plain (OpenSpec.ofChange fnAnsweredStatusFoundThroughUnwrapAgreesWithStatusSpec)) fnAnsweredStatusFoundThroughUnwrapAgreesWithStatusCard
end Rows
end Go.Proofs.Qxb6616800aDoor
