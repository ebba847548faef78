/-
  No cell of these rows narrows 'for every input' (looked for: loops, veiled, ifaces, maps, wideKeys, modest, calm, conditions, laid).
  DERIVED. THE GIVEN ROWS OF THIS SEAT. 2 by the template 'for every input the law returns true; each argument reads behind the call as it read before'; 0 by the template 'total and deterministic' (their statements: Qxb6628324aFmtTotals.lean).
  GIVEN WITH THE SEED: the statements are not yours to turn. If you find one false, say at which input.
  Laid BY PROGRAM, IN A SANDBOX (cutbox-rows.mjs): the forced cells as the released guide's own fill.sh prints them over the translation 189d120f3a778e1a… (all of the seat's roots in one cut). By AI agents, Wed Nov 11 2026. No macro, syntax, notation, axiom, sorry.
-/
import Derived.Test.Qxb6628324aFmtChecked
import GoSem.Claim
import GoSem.ClaimJoined
import GoSem.ClaimMapViews
import Derived.JoinedTies
import Derived.KernelRfl
namespace Go.Proofs.Qxb6628324aFmt
/- THE CELL 'sum', in the pinned program and in every row, IS THE sha256 OF THE DUMP (.gsa) THAT Qxb6628324aFmtProg.lean LOADS. Nothing in Lean hashes anything: it is a label: what it is worth is what the hold of that sum in a sandbox is worth. -/
noncomputable def Tryf.pinned : Pinned := { name := "qxb6628324afmt", sum := "189d120f3a778e1abe69afcadca06e4d23230428c24a44457d5f900a2022732b", checked := Tryf.checked }
namespace Rows
def none {H : Type} : Left H := { results := [], args := [] }

/-- 'zzlaws_internal_sparse_b1.FnPutReadsAsFlatArrayWrite': WHATEVER THE INPUT: true; the input reads as it did. -/
def fnPutReadsAsFlatArrayWriteSpec : ChangeSpec := { name := "fnPutReadsAsFlatArrayWrite", fn := fun _ => fun
  | [d1, d2, d3, d4, d5] => { results := [.lit (.bool true)], args := [d1, d2, d3, d4, d5] }
  | _ => none }
def fnPutReadsAsFlatArrayWriteRow : OpenClaim := { program := "qxb6628324afmt", sum := "189d120f3a778e1abe69afcadca06e4d23230428c24a44457d5f900a2022732b", func := "example.com/ballast/ballast/zzlaws_internal_sparse_b1.FnPutReadsAsFlatArrayWrite", spec := "fnPutReadsAsFlatArrayWrite", stops := ["fmt.Sprintf"], inPlace := ["fmt.Sprintf"], apart := false }
/-- NO THEOREM (fmt's text is open here; it may be false): for the released tool's asking of the row's closed facts alone. THE STATEMENT IS 'FnPutReadsAsFlatArrayWriteToldSaid' (Qxb6628324aFmtCards.lean). -/
def FnPutReadsAsFlatArrayWriteFormAsk : Prop := fnPutReadsAsFlatArrayWriteRow.holds Tryf.pinned (OpenSpec.ofChange fnPutReadsAsFlatArrayWriteSpec)

/-- ITS FALSE NEIGHBOUR: 'it returns false'. Refute it at one input. -/
def fnPutReadsAsFlatArrayWriteWrong : ChangeSpec := { name := "fnPutReadsAsFlatArrayWrite", fn := fun _ => fun
  | [d1, d2, d3, d4, d5] => { results := [.lit (.bool false)], args := [d1, d2, d3, d4, d5] }
  | _ => none }
def FnPutReadsAsFlatArrayWriteWrongFormAsk : Prop := fnPutReadsAsFlatArrayWriteRow.holds Tryf.pinned (OpenSpec.ofChange fnPutReadsAsFlatArrayWriteWrong)

/-- 'zzlaws_internal_sparse_b1.FnPutLeavesSharingArrayUnchanged': WHATEVER THE INPUT: true; the input reads as it did. -/
def fnPutLeavesSharingArrayUnchangedSpec : ChangeSpec := { name := "fnPutLeavesSharingArrayUnchanged", fn := fun _ => fun
  | [d1, d2, d3, d4] => { results := [.lit (.bool true)], args := [d1, d2, d3, d4] }
  | _ => none }
def fnPutLeavesSharingArrayUnchangedRow : OpenClaim := { program := "qxb6628324afmt", sum := "189d120f3a778e1abe69afcadca06e4d23230428c24a44457d5f900a2022732b", func := "example.com/ballast/ballast/zzlaws_internal_sparse_b1.FnPutLeavesSharingArrayUnchanged", spec := "fnPutLeavesSharingArrayUnchanged", stops := ["fmt.Sprintf"], inPlace := ["fmt.Sprintf"], apart := false }
/-- NO THEOREM (fmt's text is open here; it may be false): for the released tool's asking of the row's closed facts alone. THE STATEMENT IS 'FnPutLeavesSharingArrayUnchangedToldSaid' (Qxb6628324aFmtCards.lean). -/
def FnPutLeavesSharingArrayUnchangedFormAsk : Prop := fnPutLeavesSharingArrayUnchangedRow.holds Tryf.pinned (OpenSpec.ofChange fnPutLeavesSharingArrayUnchangedSpec)

/-- ITS FALSE NEIGHBOUR: 'it returns false'. Refute it at one input. -/
def fnPutLeavesSharingArrayUnchangedWrong : ChangeSpec := { name := "fnPutLeavesSharingArrayUnchanged", fn := fun _ => fun
  | [d1, d2, d3, d4] => { results := [.lit (.bool false)], args := [d1, d2, d3, d4] }
  | _ => none }
def FnPutLeavesSharingArrayUnchangedWrongFormAsk : Prop := fnPutLeavesSharingArrayUnchangedRow.holds Tryf.pinned (OpenSpec.ofChange fnPutLeavesSharingArrayUnchangedWrong)

end Rows
end Go.Proofs.Qxb6628324aFmt
