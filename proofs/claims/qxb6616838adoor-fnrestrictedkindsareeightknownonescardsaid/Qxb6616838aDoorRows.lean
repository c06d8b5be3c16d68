/-
  NARROWER THAN 'FOR EVERY INPUT', by the rows' own cells (each row's printed sentence says how): FnRestrictedKindsAreEightKnownOnes: laid.
  DERIVED. THE GIVEN ROWS OF THIS SEAT. 1 by the template 'for every input the law returns true; each argument reads behind the call as it read before'; 0 by the template 'total and deterministic' (their statements: Qxb6616838aDoorTotals.lean).
  GIVEN WITH THE SEED: the statements are not yours to turn. If you find one false, say at which input.
  Laid BY PROGRAM, IN A SANDBOX (cutbox-rows.mjs): the forced cells as the released guide's own fill.sh prints them over the translation ab1a4e0093d4a42a… (all of the seat's roots in one cut). By AI agents, Wed Nov 11 2026. No macro, syntax, notation, axiom, sorry.
-/
import Derived.Test.Qxb6616838aDoorChecked
import GoSem.Claim
import GoSem.ClaimJoined
import GoSem.ClaimMapViews
import Derived.JoinedTies
import Derived.KernelRfl
namespace Go.Proofs.Qxb6616838aDoor
/- THE CELL 'sum', in the pinned program and in every row, IS THE sha256 OF THE DUMP (.gsa) THAT Qxb6616838aDoorProg.lean LOADS. Nothing in Lean hashes anything: it is a label: what it is worth is what the hold of that sum in a sandbox is worth. -/
noncomputable def Tryd.pinned : Pinned := { name := "qxb6616838adoor", sum := "ab1a4e0093d4a42a86c255bc7dd42859e4fcac864a33158d89da0ec82c4b06f2", checked := Tryd.checked }
namespace Rows
def none {H : Type} : Left H := { results := [], args := [] }

/- WHAT THE LISTED PACKAGE-LEVEL VARIABLES READ AS WHEN THE CALL BEGINS. Each datum BY PROGRAM (the guide's laid-datum.mjs) off the statement by which the dump's own 'gosem.cut.vars' lays the variable. In a bare row this is a premise. The card (Qxb6616838aDoorCards.lean) ties it to the program's text. -/
def laid_example_com_tidechord_tidechord_internal_wire_kinds {H : Type} : DataW H := .agg [.agg [.lit (.string [83, 84, 65, 84, 85, 83, 95, 73, 78, 70, 79]), .lit (.int .i64 0), .lit (.bool false)], .agg [.lit (.string [82, 79, 85, 84, 73, 78, 71, 95, 84, 65, 66, 76, 69, 95, 83, 73, 90, 69]), .lit (.int .i64 2), .lit (.bool true)], .agg [.lit (.string [80, 82, 79, 67, 69, 83, 83, 95, 80, 79, 87, 69, 82]), .lit (.int .i64 2), .lit (.bool false)], .agg [.lit (.string [66, 65, 78, 68, 87, 73, 68, 84, 72]), .lit (.int .i64 2), .lit (.bool false)], .agg [.lit (.string [83, 79, 70, 84, 87, 65, 82, 69, 95, 86, 69, 82, 83, 73, 79, 78]), .lit (.int .i64 4), .lit (.bool true)], .agg [.lit (.string [77, 65, 67, 72, 73, 78, 69, 95, 85, 80, 84, 73, 77, 69]), .lit (.int .i64 3), .lit (.bool false)], .agg [.lit (.string [65, 80, 80, 95, 85, 80, 84, 73, 77, 69]), .lit (.int .i64 3), .lit (.bool false)], .agg [.lit (.string [77, 69, 77, 79, 82, 89, 95, 70, 79, 79, 84, 80, 82, 73, 78, 84]), .lit (.int .i64 2), .lit (.bool true)], .agg [.lit (.string [68, 65, 84, 65, 83, 73, 90, 69, 95, 83, 84, 79, 82, 69, 68]), .lit (.int .i64 3), .lit (.bool true)], .agg [.lit (.string [73, 78, 83, 84, 65, 78, 67, 69, 83, 95, 83, 84, 79, 82, 69, 68]), .lit (.int .i64 5), .lit (.bool true)], .agg [.lit (.string [77, 69, 83, 83, 65, 71, 69, 83, 95, 83, 69, 78, 84, 95, 82, 67, 86, 68]), .lit (.int .i64 6), .lit (.bool true)], .agg [.lit (.string [69, 87, 77, 65, 95, 66, 89, 84, 69, 83, 95, 83, 69, 78, 84]), .lit (.int .i64 2), .lit (.bool true)], .agg [.lit (.string [69, 87, 77, 65, 95, 66, 89, 84, 69, 83, 95, 82, 67, 86, 68]), .lit (.int .i64 2), .lit (.bool true)], .agg [.lit (.string [85, 78, 68, 69, 82, 76, 65, 89, 95, 72, 79, 80]), .lit (.int .i64 1), .lit (.bool false)], .agg [.lit (.string [66, 65, 84, 84, 69, 82, 89, 95, 83, 84, 65, 84, 85, 83]), .lit (.int .i64 0), .lit (.bool false)]]

/-- 'zzlaws_internal_wire_b1.FnRestrictedKindsAreEightKnownOnes': WHATEVER THE INPUT: true; the input reads as it did. -/
def fnRestrictedKindsAreEightKnownOnesSpec : ChangeSpec := { name := "fnRestrictedKindsAreEightKnownOnes", vars := ["example.com/tidechord/tidechord/internal/wire.kinds"], fn := fun _ => fun
  | [g1] => { results := [.lit (.bool true)], args := [], vars := [g1] }
  | _ => none }
def fnRestrictedKindsAreEightKnownOnesRow : OpenClaim := { program := "qxb6616838adoor", sum := "ab1a4e0093d4a42a86c255bc7dd42859e4fcac864a33158d89da0ec82c4b06f2", func := "example.com/tidechord/tidechord/zzlaws_internal_wire_b1.FnRestrictedKindsAreEightKnownOnes", spec := "fnRestrictedKindsAreEightKnownOnes", named := ["example.com/tidechord/tidechord/internal/wire.kinds"], apart := false, laid := [("example.com/tidechord/tidechord/internal/wire.kinds", laid_example_com_tidechord_tidechord_internal_wire_kinds)] }
def FnRestrictedKindsAreEightKnownOnesSaid : Prop := fnRestrictedKindsAreEightKnownOnesRow.holds Tryd.pinned (OpenSpec.ofChange fnRestrictedKindsAreEightKnownOnesSpec)

/-- ITS FALSE NEIGHBOUR: 'it returns false'. Refute it at one input. -/
def fnRestrictedKindsAreEightKnownOnesWrong : ChangeSpec := { name := "fnRestrictedKindsAreEightKnownOnes", vars := ["example.com/tidechord/tidechord/internal/wire.kinds"], fn := fun _ => fun
  | [g1] => { results := [.lit (.bool false)], args := [], vars := [g1] }
  | _ => none }
def FnRestrictedKindsAreEightKnownOnesWrongFalsely : Prop := fnRestrictedKindsAreEightKnownOnesRow.holds Tryd.pinned (OpenSpec.ofChange fnRestrictedKindsAreEightKnownOnesWrong)

end Rows
end Go.Proofs.Qxb6616838aDoor
