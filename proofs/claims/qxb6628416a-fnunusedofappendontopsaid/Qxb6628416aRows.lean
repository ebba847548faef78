/-
  No cell of these rows narrows 'for every input' (looked for: loops, veiled, ifaces, maps, wideKeys, modest, calm, conditions, laid).
  DERIVED. THE GIVEN ROWS OF THIS SEAT. 2 by the template 'for every input the law returns true; each argument reads behind the call as it read before'; 0 by the template 'total and deterministic' (their statements: Qxb6628416aTotals.lean).
  GIVEN WITH THE SEED: the statements are not yours to turn. If you find one false, say at which input.
  Laid BY PROGRAM, IN A SANDBOX (cutbox-rows.mjs): the forced cells as the released guide's own fill.sh prints them over the translation b4214ef754ec3e5f… (all of the seat's roots in one cut). By AI agents, Wed Nov 11 2026. No macro, syntax, notation, axiom, sorry.
-/
import Derived.Test.Qxb6628416aChecked
import GoSem.Claim
import GoSem.ClaimJoined
import GoSem.ClaimMapViews
import Derived.JoinedTies
import Derived.KernelRfl
namespace Go.Proofs.Qxb6628416a
/- THE CELL 'sum', in the pinned program and in every row, IS THE sha256 OF THE DUMP (.gsa) THAT Qxb6628416aProg.lean LOADS. Nothing in Lean hashes anything: it is a label: what it is worth is what the hold of that sum in a sandbox is worth. -/
noncomputable def Try.pinned : Pinned := { name := "qxb6628416a", sum := "b4214ef754ec3e5f3e70de98c9dce89ff8a0950431364f2df1cb223d30f73e3a", checked := Try.checked }
namespace Rows
def none {H : Type} : Left H := { results := [], args := [] }

/-- 'zzlaws_internal_sequence_b1.FnUnusedOfAppendOnTop': WHATEVER THE INPUT: true; the input reads as it did. -/
def fnUnusedOfAppendOnTopSpec : ChangeSpec := { name := "fnUnusedOfAppendOnTop", fn := fun _ => fun
  | [d1, d2, d3] => { results := [.lit (.bool true)], args := [d1, d2, d3] }
  | _ => none }
def fnUnusedOfAppendOnTopRow : OpenClaim := { program := "qxb6628416a", sum := "b4214ef754ec3e5f3e70de98c9dce89ff8a0950431364f2df1cb223d30f73e3a", func := "example.com/frugal-ticket/frugal-ticket/zzlaws_internal_sequence_b1.FnUnusedOfAppendOnTop", spec := "fnUnusedOfAppendOnTop", apart := false }
def FnUnusedOfAppendOnTopSaid : Prop := fnUnusedOfAppendOnTopRow.holds Try.pinned (OpenSpec.ofChange fnUnusedOfAppendOnTopSpec)

/-- ITS FALSE NEIGHBOUR: 'it returns false'. Refute it at one input. -/
def fnUnusedOfAppendOnTopWrong : ChangeSpec := { name := "fnUnusedOfAppendOnTop", fn := fun _ => fun
  | [d1, d2, d3] => { results := [.lit (.bool false)], args := [d1, d2, d3] }
  | _ => none }
def FnUnusedOfAppendOnTopWrongFalsely : Prop := fnUnusedOfAppendOnTopRow.holds Try.pinned (OpenSpec.ofChange fnUnusedOfAppendOnTopWrong)

/-- 'zzlaws_internal_sequence_b1.FnUnusedOfCutAnywhere': WHATEVER THE INPUT: true; the input reads as it did. -/
def fnUnusedOfCutAnywhereSpec : ChangeSpec := { name := "fnUnusedOfCutAnywhere", fn := fun _ => fun
  | [d1, d2, d3] => { results := [.lit (.bool true)], args := [d1, d2, d3] }
  | _ => none }
def fnUnusedOfCutAnywhereRow : OpenClaim := { program := "qxb6628416a", sum := "b4214ef754ec3e5f3e70de98c9dce89ff8a0950431364f2df1cb223d30f73e3a", func := "example.com/frugal-ticket/frugal-ticket/zzlaws_internal_sequence_b1.FnUnusedOfCutAnywhere", spec := "fnUnusedOfCutAnywhere", apart := false }
def FnUnusedOfCutAnywhereSaid : Prop := fnUnusedOfCutAnywhereRow.holds Try.pinned (OpenSpec.ofChange fnUnusedOfCutAnywhereSpec)

/-- ITS FALSE NEIGHBOUR: 'it returns false'. Refute it at one input. -/
def fnUnusedOfCutAnywhereWrong : ChangeSpec := { name := "fnUnusedOfCutAnywhere", fn := fun _ => fun
  | [d1, d2, d3] => { results := [.lit (.bool false)], args := [d1, d2, d3] }
  | _ => none }
def FnUnusedOfCutAnywhereWrongFalsely : Prop := fnUnusedOfCutAnywhereRow.holds Try.pinned (OpenSpec.ofChange fnUnusedOfCutAnywhereWrong)

end Rows
end Go.Proofs.Qxb6628416a
