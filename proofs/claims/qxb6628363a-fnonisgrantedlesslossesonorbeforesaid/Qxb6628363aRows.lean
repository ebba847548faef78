/-
  No cell of these rows narrows 'for every input' (looked for: loops, veiled, ifaces, maps, wideKeys, modest, calm, conditions, laid).
  DERIVED. THE GIVEN ROWS OF THIS SEAT. 2 by the template 'for every input the law returns true; each argument reads behind the call as it read before'; 0 by the template 'total and deterministic' (their statements: Qxb6628363aTotals.lean).
  GIVEN WITH THE SEED: the statements are not yours to turn. If you find one false, say at which input.
  Laid BY PROGRAM, IN A SANDBOX (cutbox-rows.mjs): the forced cells as the released guide's own fill.sh prints them over the translation e4abe49f92d3312a… (all of the seat's roots in one cut). By AI agents, Wed Nov 11 2026. No macro, syntax, notation, axiom, sorry.
-/
import Derived.Test.Qxb6628363aChecked
import GoSem.Claim
import GoSem.ClaimJoined
import GoSem.ClaimMapViews
import Derived.JoinedTies
import Derived.KernelRfl
namespace Go.Proofs.Qxb6628363a
/- THE CELL 'sum', in the pinned program and in every row, IS THE sha256 OF THE DUMP (.gsa) THAT Qxb6628363aProg.lean LOADS. Nothing in Lean hashes anything: it is a label: what it is worth is what the hold of that sum in a sandbox is worth. -/
noncomputable def Try.pinned : Pinned := { name := "qxb6628363a", sum := "e4abe49f92d3312a8a91538dc2dd7daac79060f852681c2c48cc8bae92e22d0d", checked := Try.checked }
namespace Rows
def none {H : Type} : Left H := { results := [], args := [] }

/-- 'zzlaws_ledger_b1.FnOnIsGrantedLessLossesOnOrBefore': WHATEVER THE INPUT: true; the input reads as it did. -/
def fnOnIsGrantedLessLossesOnOrBeforeSpec : ChangeSpec := { name := "fnOnIsGrantedLessLossesOnOrBefore", fn := fun _ => fun
  | [d1, d2, d3, d4] => { results := [.lit (.bool true)], args := [d1, d2, d3, d4] }
  | _ => none }
def fnOnIsGrantedLessLossesOnOrBeforeRow : OpenClaim := { program := "qxb6628363a", sum := "e4abe49f92d3312a8a91538dc2dd7daac79060f852681c2c48cc8bae92e22d0d", func := "example.com/vestkeeper/vestkeeper/zzlaws_ledger_b1.FnOnIsGrantedLessLossesOnOrBefore", spec := "fnOnIsGrantedLessLossesOnOrBefore", apart := false }
def FnOnIsGrantedLessLossesOnOrBeforeSaid : Prop := fnOnIsGrantedLessLossesOnOrBeforeRow.holds Try.pinned (OpenSpec.ofChange fnOnIsGrantedLessLossesOnOrBeforeSpec)

/-- ITS FALSE NEIGHBOUR: 'it returns false'. Refute it at one input. -/
def fnOnIsGrantedLessLossesOnOrBeforeWrong : ChangeSpec := { name := "fnOnIsGrantedLessLossesOnOrBefore", fn := fun _ => fun
  | [d1, d2, d3, d4] => { results := [.lit (.bool false)], args := [d1, d2, d3, d4] }
  | _ => none }
def FnOnIsGrantedLessLossesOnOrBeforeWrongFalsely : Prop := fnOnIsGrantedLessLossesOnOrBeforeRow.holds Try.pinned (OpenSpec.ofChange fnOnIsGrantedLessLossesOnOrBeforeWrong)

/-- 'zzlaws_ledger_b1.FnOnChangeBetweenTwoDaysIsTheLossesBetween': WHATEVER THE INPUT: true; the input reads as it did. -/
def fnOnChangeBetweenTwoDaysIsTheLossesBetweenSpec : ChangeSpec := { name := "fnOnChangeBetweenTwoDaysIsTheLossesBetween", fn := fun _ => fun
  | [d1, d2, d3, d4, d5] => { results := [.lit (.bool true)], args := [d1, d2, d3, d4, d5] }
  | _ => none }
def fnOnChangeBetweenTwoDaysIsTheLossesBetweenRow : OpenClaim := { program := "qxb6628363a", sum := "e4abe49f92d3312a8a91538dc2dd7daac79060f852681c2c48cc8bae92e22d0d", func := "example.com/vestkeeper/vestkeeper/zzlaws_ledger_b1.FnOnChangeBetweenTwoDaysIsTheLossesBetween", spec := "fnOnChangeBetweenTwoDaysIsTheLossesBetween", apart := false }
def FnOnChangeBetweenTwoDaysIsTheLossesBetweenSaid : Prop := fnOnChangeBetweenTwoDaysIsTheLossesBetweenRow.holds Try.pinned (OpenSpec.ofChange fnOnChangeBetweenTwoDaysIsTheLossesBetweenSpec)

/-- ITS FALSE NEIGHBOUR: 'it returns false'. Refute it at one input. -/
def fnOnChangeBetweenTwoDaysIsTheLossesBetweenWrong : ChangeSpec := { name := "fnOnChangeBetweenTwoDaysIsTheLossesBetween", fn := fun _ => fun
  | [d1, d2, d3, d4, d5] => { results := [.lit (.bool false)], args := [d1, d2, d3, d4, d5] }
  | _ => none }
def FnOnChangeBetweenTwoDaysIsTheLossesBetweenWrongFalsely : Prop := fnOnChangeBetweenTwoDaysIsTheLossesBetweenRow.holds Try.pinned (OpenSpec.ofChange fnOnChangeBetweenTwoDaysIsTheLossesBetweenWrong)

end Rows
end Go.Proofs.Qxb6628363a
