/-
  DERIVED. GIVEN WITH THE SEED: THE CARDS: each row of Qxb6616838aDoorRows.lean that lists a variable, with what it lists TIED to the program's text (the seventh form; the later family's looks); each row that meets fmt, with fmt's text TOLD by the authors' own Lean function (tested against real Go, not proved from fmt's source: count such statements apart). THE CARD IS WHAT COUNTS. Prove the row's statement (the work); the ties are given (Qxb6616838aDoorTie.lean); close each card by the builder's one call (the guide's Derived/Test/ToyasCard.lean, 'card_holds'). Laid BY PROGRAM, IN A SANDBOX (cutbox-door.mjs). By AI agents, Wed Nov 11 2026. No macro, syntax, notation, axiom, sorry.
-/
import Derived.Test.Qxb6616838aDoorRows
import GoSem.ClaimSeven
namespace Go.Proofs.Qxb6616838aDoor
namespace Rows

/-- THE TIED CARD OF 'zzlaws_internal_wire_b1.FnRestrictedKindsAreEightKnownOnes'. -/
def fnRestrictedKindsAreEightKnownOnesCard : Claim7 := { stood := { row := fnRestrictedKindsAreEightKnownOnesRow, standIns := [], harness := (true, "062e9aadcb5f98cd25b35149a184e2f4ffba0a46154f34a478a97353973e3ab8"), looks := false }, kinds := [], alts := [], laidByText := true, laidKinds := [.widerDeep], laidTests := true, laidLooks := .later }
def FnRestrictedKindsAreEightKnownOnesCardSaid : Prop := Claim7.holds Tryd.pinned (.plain (OpenSpec.ofChange fnRestrictedKindsAreEightKnownOnesSpec)) fnRestrictedKindsAreEightKnownOnesCard
end Rows
end Go.Proofs.Qxb6616838aDoor
