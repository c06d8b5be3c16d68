/-
  No cell of these rows narrows 'for every input' (looked for: loops, veiled, ifaces, maps, wideKeys, modest, calm, conditions, laid).
  DERIVED. THE GIVEN ROWS OF THIS SEAT. 2 by the template 'for every input the law returns true; each argument reads behind the call as it read before'; 0 by the template 'total and deterministic' (their statements: Qxb6616867aTotals.lean).
  GIVEN WITH THE SEED: the statements are not yours to turn. If you find one false, say at which input.
  Laid BY PROGRAM, IN A SANDBOX (cutbox-rows.mjs): the forced cells as the released guide's own fill.sh prints them over the translation 655470773cc2c1c4… (all of the seat's roots in one cut). By AI agents, Wed Nov 11 2026. No macro, syntax, notation, axiom, sorry.
-/
import Derived.Test.Qxb6616867aChecked
import GoSem.Claim
import GoSem.ClaimJoined
import GoSem.ClaimMapViews
import Derived.JoinedTies
import Derived.KernelRfl
namespace Go.Proofs.Qxb6616867a
/- THE CELL 'sum', in the pinned program and in every row, IS THE sha256 OF THE DUMP (.gsa) THAT Qxb6616867aProg.lean LOADS. Nothing in Lean hashes anything: it is a label: what it is worth is what the hold of that sum in a sandbox is worth. -/
noncomputable def Try.pinned : Pinned := { name := "qxb6616867a", sum := "655470773cc2c1c4b83091ae8885509437f4639e6c052de88ed62271820f4fbc", checked := Try.checked }
namespace Rows
def none {H : Type} : Left H := { results := [], args := [] }

/-- 'zzlaws_internal_routing_b1.FnChildIsStableAndOneNodePerSegment': WHATEVER THE INPUT: true; the input reads as it did. -/
def fnChildIsStableAndOneNodePerSegmentSpec : ChangeSpec := { name := "fnChildIsStableAndOneNodePerSegment", fn := fun _ => fun
  | [d1, d2] => { results := [.lit (.bool true)], args := [d1, d2] }
  | _ => none }
def fnChildIsStableAndOneNodePerSegmentRow : OpenClaim := { program := "qxb6616867a", sum := "655470773cc2c1c4b83091ae8885509437f4639e6c052de88ed62271820f4fbc", func := "example.com/siteloom/siteloom/zzlaws_internal_routing_b1.FnChildIsStableAndOneNodePerSegment", spec := "fnChildIsStableAndOneNodePerSegment", apart := false }
def FnChildIsStableAndOneNodePerSegmentSaid : Prop := fnChildIsStableAndOneNodePerSegmentRow.holds Try.pinned (OpenSpec.ofChange fnChildIsStableAndOneNodePerSegmentSpec)

/-- ITS FALSE NEIGHBOUR: 'it returns false'. Refute it at one input. -/
def fnChildIsStableAndOneNodePerSegmentWrong : ChangeSpec := { name := "fnChildIsStableAndOneNodePerSegment", fn := fun _ => fun
  | [d1, d2] => { results := [.lit (.bool false)], args := [d1, d2] }
  | _ => none }
def FnChildIsStableAndOneNodePerSegmentWrongFalsely : Prop := fnChildIsStableAndOneNodePerSegmentRow.holds Try.pinned (OpenSpec.ofChange fnChildIsStableAndOneNodePerSegmentWrong)

/-- 'zzlaws_internal_routing_b1.FnChildAgreesWithStaticLookup': WHATEVER THE INPUT: true; the input reads as it did. -/
def fnChildAgreesWithStaticLookupSpec : ChangeSpec := { name := "fnChildAgreesWithStaticLookup", fn := fun _ => fun
  | [d1, d2, d3] => { results := [.lit (.bool true)], args := [d1, d2, d3] }
  | _ => none }
def fnChildAgreesWithStaticLookupRow : OpenClaim := { program := "qxb6616867a", sum := "655470773cc2c1c4b83091ae8885509437f4639e6c052de88ed62271820f4fbc", func := "example.com/siteloom/siteloom/zzlaws_internal_routing_b1.FnChildAgreesWithStaticLookup", spec := "fnChildAgreesWithStaticLookup", apart := false }
def FnChildAgreesWithStaticLookupSaid : Prop := fnChildAgreesWithStaticLookupRow.holds Try.pinned (OpenSpec.ofChange fnChildAgreesWithStaticLookupSpec)

/-- ITS FALSE NEIGHBOUR: 'it returns false'. Refute it at one input. -/
def fnChildAgreesWithStaticLookupWrong : ChangeSpec := { name := "fnChildAgreesWithStaticLookup", fn := fun _ => fun
  | [d1, d2, d3] => { results := [.lit (.bool false)], args := [d1, d2, d3] }
  | _ => none }
def FnChildAgreesWithStaticLookupWrongFalsely : Prop := fnChildAgreesWithStaticLookupRow.holds Try.pinned (OpenSpec.ofChange fnChildAgreesWithStaticLookupWrong)

end Rows
end Go.Proofs.Qxb6616867a
