/-
  DERIVED. GIVEN WITH THE SEED: THE CARDS: each row of Qxb6616642aFmtRows.lean that lists a variable, with what it lists TIED to the program's text (the seventh form; the later family's looks); each row that meets fmt, with fmt's text TOLD by the authors' own Lean function (tested against real Go, not proved from fmt's source: count such statements apart). THE CARD IS WHAT COUNTS. Prove the row's statement (the work); the ties are given (Qxb6616642aFmtTie.lean); close each card by the builder's one call (the guide's Derived/Test/ToyasCard.lean, 'card_holds'). Laid BY PROGRAM, IN A SANDBOX (cutbox-door.mjs). By AI agents, Wed Nov 11 2026. No macro, syntax, notation, axiom, sorry.
-/
import Derived.Test.Qxb6616642aFmtRows
import GoSem.ClaimSeven
namespace Go.Proofs.Qxb6616642aFmt
namespace Rows

/-- THE TOLD AND TIED CARD OF 'zzlaws_pkg_resp_b1.FnBulkFramesReadBack'. -/
def fnBulkFramesReadBackCard : Claim7 := { stood := { row := fnBulkFramesReadBackRow, standIns := [], harness := (true, "f92998458073f879cc54dfe8ebd86809f166fba22b379b772533bbd28b458fe2"), looks := true }, told := true, laidByText := true, laidKinds := [.data, .data, .data, .sentinel], laidTests := true, laidLooks := .later, goes := false }
def FnBulkFramesReadBackToldSaid : Prop := Claim7.holds Tryf.pinned (.plain (OpenSpec.ofChange fnBulkFramesReadBackSpec)) fnBulkFramesReadBackCard
/-- ITS FALSE NEIGHBOUR. Refute it at one input. -/
def FnBulkFramesReadBackToldWrongFalsely : Prop := Claim7.holds Tryf.pinned (.plain (OpenSpec.ofChange fnBulkFramesReadBackWrong)) fnBulkFramesReadBackCard

/-- THE TOLD AND TIED CARD OF 'zzlaws_pkg_resp_b1.FnBulkStreamIsConcatOfFrames'. -/
def fnBulkStreamIsConcatOfFramesCard : Claim7 := { stood := { row := fnBulkStreamIsConcatOfFramesRow, standIns := [], harness := (true, "f92998458073f879cc54dfe8ebd86809f166fba22b379b772533bbd28b458fe2"), looks := true }, told := true, laidByText := true, laidKinds := [.data, .data, .data, .sentinel], laidTests := true, laidLooks := .later, goes := false }
def FnBulkStreamIsConcatOfFramesToldSaid : Prop := Claim7.holds Tryf.pinned (.plain (OpenSpec.ofChange fnBulkStreamIsConcatOfFramesSpec)) fnBulkStreamIsConcatOfFramesCard
/-- ITS FALSE NEIGHBOUR. Refute it at one input. -/
def FnBulkStreamIsConcatOfFramesToldWrongFalsely : Prop := Claim7.holds Tryf.pinned (.plain (OpenSpec.ofChange fnBulkStreamIsConcatOfFramesWrong)) fnBulkStreamIsConcatOfFramesCard

/-- THE TOLD AND TIED CARD OF 'zzlaws_pkg_resp_b1.FnNullFramesReadBack'. -/
def fnNullFramesReadBackCard : Claim7 := { stood := { row := fnNullFramesReadBackRow, standIns := [], harness := (true, "f92998458073f879cc54dfe8ebd86809f166fba22b379b772533bbd28b458fe2"), looks := true }, told := true, laidByText := true, laidKinds := [.data, .data, .data, .sentinel], laidTests := true, laidLooks := .later, goes := false }
def FnNullFramesReadBackToldSaid : Prop := Claim7.holds Tryf.pinned (.plain (OpenSpec.ofChange fnNullFramesReadBackSpec)) fnNullFramesReadBackCard
/-- ITS FALSE NEIGHBOUR. Refute it at one input. -/
def FnNullFramesReadBackToldWrongFalsely : Prop := Claim7.holds Tryf.pinned (.plain (OpenSpec.ofChange fnNullFramesReadBackWrong)) fnNullFramesReadBackCard

/-- THE TOLD AND TIED CARD OF 'zzlaws_pkg_resp_b1.FnLineFrameIsOneCleanLine'. -/
def fnLineFrameIsOneCleanLineCard : Claim7 := { stood := { row := fnLineFrameIsOneCleanLineRow, standIns := [], harness := (true, "f92998458073f879cc54dfe8ebd86809f166fba22b379b772533bbd28b458fe2"), looks := true }, told := true, laidByText := true, laidKinds := [.sentinel], laidTests := true, laidLooks := .later, goes := false }
def FnLineFrameIsOneCleanLineToldSaid : Prop := Claim7.holds Tryf.pinned (.plain (OpenSpec.ofChange fnLineFrameIsOneCleanLineSpec)) fnLineFrameIsOneCleanLineCard
/-- ITS FALSE NEIGHBOUR. Refute it at one input. -/
def FnLineFrameIsOneCleanLineToldWrongFalsely : Prop := Claim7.holds Tryf.pinned (.plain (OpenSpec.ofChange fnLineFrameIsOneCleanLineWrong)) fnLineFrameIsOneCleanLineCard

/-- THE TOLD AND TIED CARD OF 'zzlaws_pkg_resp_b1.FnLineSplitsAtAnyCut'. -/
def fnLineSplitsAtAnyCutCard : Claim7 := { stood := { row := fnLineSplitsAtAnyCutRow, standIns := [], harness := (true, "f92998458073f879cc54dfe8ebd86809f166fba22b379b772533bbd28b458fe2"), looks := true }, told := true, laidByText := true, laidKinds := [.sentinel], laidTests := true, laidLooks := .later, goes := false }
def FnLineSplitsAtAnyCutToldSaid : Prop := Claim7.holds Tryf.pinned (.plain (OpenSpec.ofChange fnLineSplitsAtAnyCutSpec)) fnLineSplitsAtAnyCutCard
/-- ITS FALSE NEIGHBOUR. Refute it at one input. -/
def FnLineSplitsAtAnyCutToldWrongFalsely : Prop := Claim7.holds Tryf.pinned (.plain (OpenSpec.ofChange fnLineSplitsAtAnyCutWrong)) fnLineSplitsAtAnyCutCard
end Rows
end Go.Proofs.Qxb6616642aFmt
