/-
  No cell of these rows narrows 'for every input' (looked for: loops, veiled, ifaces, maps, wideKeys, modest, calm, conditions, laid).
  DERIVED. THE GIVEN ROWS OF THIS SEAT. 1 by the template 'for every input the law returns true; each argument reads behind the call as it read before'; 0 by the template 'total and deterministic' (their statements: Qxb6628412aTotals.lean).
  GIVEN WITH THE SEED: the statements are not yours to turn. If you find one false, say at which input.
  Laid BY PROGRAM, IN A SANDBOX (cutbox-rows.mjs): the forced cells as the released guide's own fill.sh prints them over the translation 5deaa1bb83612987… (all of the seat's roots in one cut). By AI agents, Wed Nov 11 2026. No macro, syntax, notation, axiom, sorry.
-/
import Derived.Test.Qxb6628412aChecked
import GoSem.Claim
import GoSem.ClaimJoined
import GoSem.ClaimMapViews
import Derived.JoinedTies
import Derived.KernelRfl
namespace Go.Proofs.Qxb6628412a
/- THE CELL 'sum', in the pinned program and in every row, IS THE sha256 OF THE DUMP (.gsa) THAT Qxb6628412aProg.lean LOADS. Nothing in Lean hashes anything: it is a label: what it is worth is what the hold of that sum in a sandbox is worth. -/
noncomputable def Try.pinned : Pinned := { name := "qxb6628412a", sum := "5deaa1bb83612987766570ab623416b0bca7dcf9e6c74b16eae106c5520093ef", checked := Try.checked }
namespace Rows
def none {H : Type} : Left H := { results := [], args := [] }

/-- 'zzlaws_internal_finding_b1.FnListingAddScript': WHATEVER THE INPUT: true; the input reads as it did. -/
def fnListingAddScriptSpec : ChangeSpec := { name := "fnListingAddScript", fn := fun _ => fun
  | [d1, d2] => { results := [.lit (.bool true)], args := [d1, d2] }
  | _ => none }
def fnListingAddScriptRow : OpenClaim := { program := "qxb6628412a", sum := "5deaa1bb83612987766570ab623416b0bca7dcf9e6c74b16eae106c5520093ef", func := "example.com/keelwright/keelwright/zzlaws_internal_finding_b1.FnListingAddScript", spec := "fnListingAddScript", apart := false }
def FnListingAddScriptSaid : Prop := fnListingAddScriptRow.holds Try.pinned (OpenSpec.ofChange fnListingAddScriptSpec)

/-- ITS FALSE NEIGHBOUR: 'it returns false'. Refute it at one input. -/
def fnListingAddScriptWrong : ChangeSpec := { name := "fnListingAddScript", fn := fun _ => fun
  | [d1, d2] => { results := [.lit (.bool false)], args := [d1, d2] }
  | _ => none }
def FnListingAddScriptWrongFalsely : Prop := fnListingAddScriptRow.holds Try.pinned (OpenSpec.ofChange fnListingAddScriptWrong)

end Rows
end Go.Proofs.Qxb6628412a
