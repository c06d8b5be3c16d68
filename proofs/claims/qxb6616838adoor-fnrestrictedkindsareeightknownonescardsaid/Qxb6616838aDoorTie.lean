/-
  DERIVED. GIVEN WITH THE SEED: THE PROGRAM's TIES (one call each: nine closed facts by the kernel) AND EACH ROW's TIE, after the 31st guide's Derived/Test/Toyas{Tie, Card}.lean. No idea stands in it: it is a product of the set-up. Laid BY PROGRAM, IN A SANDBOX (cutbox-door.mjs). By AI agents, Wed Nov 11 2026. No macro, syntax, notation, axiom, sorry.
-/
import Derived.Test.Qxb6616838aDoorRows
import Derived.LaidByTextLater
import Derived.SevenTiedAt
import Derived.LaidSub
import Derived.LaidOnce
namespace Go.Proofs.Qxb6616838aDoor
open Go
set_option maxRecDepth 100000
theorem seatTie1 : Tryd.prog.laidByTextLater [("example.com/tidechord/tidechord/internal/wire.kinds", Rows.laid_example_com_tidechord_tidechord_internal_wire_kinds)] [.widerDeep] true :=
  Program.laidByTextLater_by_one 29 8 46 (by kernel_rfl) (by kernel_rfl) (by kernel_rfl) (by kernel_rfl) (by kernel_rfl) (by kernel_rfl) (fun _ _ => by kernel_rfl)
theorem noOwnUnsafe : Tryd.pinned.checked.prog.headLifts.contains "ownunsafe" = false := by kernel_rfl
theorem tie : Tryd.prog.laidByTextLater [("example.com/tidechord/tidechord/internal/wire.kinds", Rows.laid_example_com_tidechord_tidechord_internal_wire_kinds)] [.widerDeep] true :=
  Program.laidByTextLater.sub seatTie1 ["example.com/tidechord/tidechord/internal/wire.kinds"] (by kernel_rfl) (by kernel_rfl)
theorem fnRestrictedKindsAreEightKnownOnes_row_tie : Rows.fnRestrictedKindsAreEightKnownOnesRow.laidByTextAt .later Tryd.pinned [.widerDeep] true :=
  OpenClaim.laidByTextAt_later rfl rfl tie noOwnUnsafe
end Go.Proofs.Qxb6616838aDoor
