/-
  DERIVED. GIVEN WITH THE SEED: THE CARDS: each row of YtmdkpihlhdjjaaaGreatFmtRows.lean that lists a variable, with what it lists TIED to the program's text (the seventh form; the later family's looks); each row that meets fmt, with fmt's text TOLD by the authors' own Lean function (tested against real Go, not proved from fmt's source: count such statements apart). THE CARD IS WHAT COUNTS. Prove the row's statement (the work); the ties are given (YtmdkpihlhdjjaaaGreatFmtTie.lean); close each card by the builder's one call (the guide's Derived/Test/ToyasCard.lean, 'card_holds'). Laid BY PROGRAM, IN A SANDBOX (cutbox-door.mjs). By AI agents, Wed Nov 11 2026. No macro, syntax, notation, axiom, sorry.
-/
import Derived.Test.YtmdkpihlhdjjaaaGreatFmtRows
import GoSem.ClaimSeven
namespace Go.Proofs.YtmdkpihlhdjjaaaGreatFmt
namespace Rows

/-- THE TOLD AND TIED CARD OF 'n010_39.FnPrintRefusesComment'. -/
def fnPrintRefusesCommentCard : Claim7 := { stood := { row := fnPrintRefusesCommentRow, standIns := [], harness := (true, "0c414a1fa0c2f326788f1ea534363d9f4c3bc2724477ee029e1c08c4421b81ef"), looks := true }, told := true, laidByText := true, laidKinds := [.data, .data, .data, .data, .sentinel, .listed, .data, .pinned], laidTests := true, laidLooks := .later, goes := false }
def FnPrintRefusesCommentToldSaid : Prop := Claim7.holds Tryz.pinned (.plain (OpenSpec.ofChange fnPrintRefusesCommentSpec)) fnPrintRefusesCommentCard
/-- ITS FALSE NEIGHBOUR. Refute it at one input. -/
def FnPrintRefusesCommentToldWrongFalsely : Prop := Claim7.holds Tryz.pinned (.plain (OpenSpec.ofChange fnPrintRefusesCommentWrong)) fnPrintRefusesCommentCard

/-- THE TOLD AND TIED CARD OF 'n010_157.FnFlushCommentsSecondCallSilent'. -/
def fnFlushCommentsSecondCallSilentCard : Claim7 := { stood := { row := fnFlushCommentsSecondCallSilentRow, standIns := [], harness := (true, "0c414a1fa0c2f326788f1ea534363d9f4c3bc2724477ee029e1c08c4421b81ef"), looks := true }, told := true, laidByText := true, laidKinds := [.data, .data, .data, .data, .listed, .data, .pinned], laidTests := true, laidLooks := .later, goes := false }
def FnFlushCommentsSecondCallSilentToldSaid : Prop := Claim7.holds Tryz.pinned (.plain (OpenSpec.ofChange fnFlushCommentsSecondCallSilentSpec)) fnFlushCommentsSecondCallSilentCard
/-- ITS FALSE NEIGHBOUR. Refute it at one input. -/
def FnFlushCommentsSecondCallSilentToldWrongFalsely : Prop := Claim7.holds Tryz.pinned (.plain (OpenSpec.ofChange fnFlushCommentsSecondCallSilentWrong)) fnFlushCommentsSecondCallSilentCard

/-- THE TOLD AND TIED CARD OF 'n010_157.FnFlushCommentsLayout'. -/
def fnFlushCommentsLayoutCard : Claim7 := { stood := { row := fnFlushCommentsLayoutRow, standIns := [], harness := (true, "0c414a1fa0c2f326788f1ea534363d9f4c3bc2724477ee029e1c08c4421b81ef"), looks := true }, told := true, laidByText := true, laidKinds := [.data, .data, .data, .data, .listed, .data, .pinned], laidTests := true, laidLooks := .later, goes := false }
def FnFlushCommentsLayoutToldSaid : Prop := Claim7.holds Tryz.pinned (.plain (OpenSpec.ofChange fnFlushCommentsLayoutSpec)) fnFlushCommentsLayoutCard
/-- ITS FALSE NEIGHBOUR. Refute it at one input. -/
def FnFlushCommentsLayoutToldWrongFalsely : Prop := Claim7.holds Tryz.pinned (.plain (OpenSpec.ofChange fnFlushCommentsLayoutWrong)) fnFlushCommentsLayoutCard

/-- THE TOLD AND TIED CARD OF 'n010_43.FnSemiOrNewlSingleLine'. -/
def fnSemiOrNewlSingleLineCard : Claim7 := { stood := { row := fnSemiOrNewlSingleLineRow, standIns := [], harness := (true, "0c414a1fa0c2f326788f1ea534363d9f4c3bc2724477ee029e1c08c4421b81ef"), looks := true }, told := true, laidByText := true, laidKinds := [.data, .data, .data, .data, .listed, .data, .pinned], laidTests := true, laidLooks := .later, goes := false }
def FnSemiOrNewlSingleLineToldSaid : Prop := Claim7.holds Tryz.pinned (.plain (OpenSpec.ofChange fnSemiOrNewlSingleLineSpec)) fnSemiOrNewlSingleLineCard
/-- ITS FALSE NEIGHBOUR. Refute it at one input. -/
def FnSemiOrNewlSingleLineToldWrongFalsely : Prop := Claim7.holds Tryz.pinned (.plain (OpenSpec.ofChange fnSemiOrNewlSingleLineWrong)) fnSemiOrNewlSingleLineCard
end Rows
end Go.Proofs.YtmdkpihlhdjjaaaGreatFmt
