/-
  No cell of these rows narrows 'for every input' (looked for: loops, veiled, ifaces, maps, wideKeys, modest, calm, conditions, laid).
  DERIVED. THE GIVEN ROWS OF THIS SEAT. 1 by the template 'for every input the law returns true; each argument reads behind the call as it read before'; 0 by the template 'total and deterministic' (their statements: Qxb6616800aTotals.lean).
  GIVEN WITH THE SEED: the statements are not yours to turn. If you find one false, say at which input.
  Laid BY PROGRAM, IN A SANDBOX (cutbox-rows.mjs): the forced cells as the released guide's own fill.sh prints them over the translation c0a2a24303accb5b… (all of the seat's roots in one cut). By AI agents, Wed Nov 11 2026. No macro, syntax, notation, axiom, sorry.
-/
import Derived.Test.Qxb6616800aChecked
import GoSem.Claim
import GoSem.ClaimJoined
import GoSem.ClaimMapViews
import Derived.JoinedTies
import Derived.KernelRfl
namespace Go.Proofs.Qxb6616800a
/- THE CELL 'sum', in the pinned program and in every row, IS THE sha256 OF THE DUMP (.gsa) THAT Qxb6616800aProg.lean LOADS. Nothing in Lean hashes anything: it is a label: what it is worth is what the hold of that sum in a sandbox is worth. -/
noncomputable def Try.pinned : Pinned := { name := "qxb6616800a", sum := "c0a2a24303accb5b5e54b786bb302f78f6225c04005d2ad7643d7880e5d789f1", checked := Try.checked }
namespace Rows
def none {H : Type} : Left H := { results := [], args := [] }

/-- 'zzlaws_gitexec_b1.FnLinkedAtAnyCut': WHATEVER THE INPUT: true; the input reads as it did. -/
def fnLinkedAtAnyCutSpec : ChangeSpec := { name := "fnLinkedAtAnyCut", fn := fun _ => fun
  | [d1, d2] => { results := [.lit (.bool true)], args := [d1, d2] }
  | _ => none }
def fnLinkedAtAnyCutRow : OpenClaim := { program := "qxb6616800a", sum := "c0a2a24303accb5b5e54b786bb302f78f6225c04005d2ad7643d7880e5d789f1", func := "example.com/limbwalk/limbwalk/zzlaws_gitexec_b1.FnLinkedAtAnyCut", spec := "fnLinkedAtAnyCut", apart := false }
def FnLinkedAtAnyCutSaid : Prop := fnLinkedAtAnyCutRow.holds Try.pinned (OpenSpec.ofChange fnLinkedAtAnyCutSpec)

/-- ITS FALSE NEIGHBOUR: 'it returns false'. Refute it at one input. -/
def fnLinkedAtAnyCutWrong : ChangeSpec := { name := "fnLinkedAtAnyCut", fn := fun _ => fun
  | [d1, d2] => { results := [.lit (.bool false)], args := [d1, d2] }
  | _ => none }
def FnLinkedAtAnyCutWrongFalsely : Prop := fnLinkedAtAnyCutRow.holds Try.pinned (OpenSpec.ofChange fnLinkedAtAnyCutWrong)

end Rows
end Go.Proofs.Qxb6616800a
