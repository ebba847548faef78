/-
  DERIVED. GIVEN WITH THE SEED: THE CARDS: each row of Qxb6628324aFmtRows.lean that lists a variable, with what it lists TIED to the program's text (the seventh form; the later family's looks); each row that meets fmt, with fmt's text TOLD by the authors' own Lean function (tested against real Go, not proved from fmt's source: count such statements apart). THE CARD IS WHAT COUNTS. Prove the row's statement (the work); the ties are given (Qxb6628324aFmtTie.lean); close each card by the builder's one call (the guide's Derived/Test/ToyasCard.lean, 'card_holds'). Laid BY PROGRAM, IN A SANDBOX (cutbox-door.mjs). By AI agents, Wed Nov 11 2026. No macro, syntax, notation, axiom, sorry.
-/
import Derived.Test.Qxb6628324aFmtRows
import GoSem.ClaimSeven
namespace Go.Proofs.Qxb6628324aFmt
namespace Rows

/-- THE TOLD CARD OF 'zzlaws_internal_sparse_b1.FnPutReadsAsFlatArrayWrite'. -/
def fnPutReadsAsFlatArrayWriteCard : Claim7 := { stood := { row := fnPutReadsAsFlatArrayWriteRow, standIns := [], harness := (true, "eeaecba57271842d7b3aa68bb4b0a7c30c744815ac23997d64633c8fb21d3a4c"), looks := false }, told := true, goes := false }
def FnPutReadsAsFlatArrayWriteToldSaid : Prop := Claim7.holds Tryf.pinned (.plain (OpenSpec.ofChange fnPutReadsAsFlatArrayWriteSpec)) fnPutReadsAsFlatArrayWriteCard
/-- ITS FALSE NEIGHBOUR. Refute it at one input. -/
def FnPutReadsAsFlatArrayWriteToldWrongFalsely : Prop := Claim7.holds Tryf.pinned (.plain (OpenSpec.ofChange fnPutReadsAsFlatArrayWriteWrong)) fnPutReadsAsFlatArrayWriteCard

/-- THE TOLD CARD OF 'zzlaws_internal_sparse_b1.FnPutLeavesSharingArrayUnchanged'. -/
def fnPutLeavesSharingArrayUnchangedCard : Claim7 := { stood := { row := fnPutLeavesSharingArrayUnchangedRow, standIns := [], harness := (true, "eeaecba57271842d7b3aa68bb4b0a7c30c744815ac23997d64633c8fb21d3a4c"), looks := false }, told := true, goes := false }
def FnPutLeavesSharingArrayUnchangedToldSaid : Prop := Claim7.holds Tryf.pinned (.plain (OpenSpec.ofChange fnPutLeavesSharingArrayUnchangedSpec)) fnPutLeavesSharingArrayUnchangedCard
/-- ITS FALSE NEIGHBOUR. Refute it at one input. -/
def FnPutLeavesSharingArrayUnchangedToldWrongFalsely : Prop := Claim7.holds Tryf.pinned (.plain (OpenSpec.ofChange fnPutLeavesSharingArrayUnchangedWrong)) fnPutLeavesSharingArrayUnchangedCard
end Rows
end Go.Proofs.Qxb6628324aFmt
