/-
  DERIVED. GIVEN WITH THE SEED: THE CARDS: each row of YtdfgcopelfmcmaaGreatFmtRows.lean that lists a variable, with what it lists TIED to the program's text (the seventh form; the later family's looks); each row that meets fmt, with fmt's text TOLD by the authors' own Lean function (tested against real Go, not proved from fmt's source: count such statements apart). THE CARD IS WHAT COUNTS. Prove the row's statement (the work); the ties are given (YtdfgcopelfmcmaaGreatFmtTie.lean); close each card by the builder's one call (the guide's Derived/Test/ToyasCard.lean, 'card_holds'). Laid BY PROGRAM, IN A SANDBOX (cutbox-door.mjs). By AI agents, Wed Nov 11 2026. No macro, syntax, notation, axiom, sorry.
-/
import Derived.Test.YtdfgcopelfmcmaaGreatFmtRows
import GoSem.ClaimSeven
namespace Go.Proofs.YtdfgcopelfmcmaaGreatFmt
namespace Rows

/-- THE TOLD AND TIED CARD OF 'n010_67.FnPrintEmptyFileTable'. -/
def fnPrintEmptyFileTableCard : Claim7 := { stood := { row := fnPrintEmptyFileTableRow, standIns := [], harness := (true, "c256cb938cc72fea18892de9e5d9619073a373eb5982dca642dd444bd7a14663"), looks := true }, told := true, laidByText := true, laidKinds := [.data, .data, .data, .data, .sentinel, .listed, .data, .pinned], laidTests := true, laidLooks := .later, goes := false }
def FnPrintEmptyFileTableToldSaid : Prop := Claim7.holds Tryz.pinned (.plain (OpenSpec.ofChange fnPrintEmptyFileTableSpec)) fnPrintEmptyFileTableCard
/-- ITS FALSE NEIGHBOUR. Refute it at one input. -/
def FnPrintEmptyFileTableToldWrongFalsely : Prop := Claim7.holds Tryz.pinned (.plain (OpenSpec.ofChange fnPrintEmptyFileTableWrong)) fnPrintEmptyFileTableCard

/-- THE TOLD AND TIED CARD OF 'n010_67.FnFunctionNextLineScript'. -/
def fnFunctionNextLineScriptCard : Claim7 := { stood := { row := fnFunctionNextLineScriptRow, standIns := [], harness := (true, "c256cb938cc72fea18892de9e5d9619073a373eb5982dca642dd444bd7a14663"), looks := true }, told := true, laidByText := true, laidKinds := [.data, .data, .data, .data, .sentinel, .listed, .data, .pinned], laidTests := true, laidLooks := .later, goes := false }
def FnFunctionNextLineScriptToldSaid : Prop := Claim7.holds Tryz.pinned (.plain (OpenSpec.ofChange fnFunctionNextLineScriptSpec)) fnFunctionNextLineScriptCard
/-- ITS FALSE NEIGHBOUR. Refute it at one input. -/
def FnFunctionNextLineScriptToldWrongFalsely : Prop := Claim7.holds Tryz.pinned (.plain (OpenSpec.ofChange fnFunctionNextLineScriptWrong)) fnFunctionNextLineScriptCard

/-- THE TOLD AND TIED CARD OF 'n010_67.FnMinifyScript'. -/
def fnMinifyScriptCard : Claim7 := { stood := { row := fnMinifyScriptRow, standIns := [], harness := (true, "c256cb938cc72fea18892de9e5d9619073a373eb5982dca642dd444bd7a14663"), looks := true }, told := true, laidByText := true, laidKinds := [.data, .data, .data, .data, .sentinel, .listed, .data, .pinned], laidTests := true, laidLooks := .later, goes := false }
def FnMinifyScriptToldSaid : Prop := Claim7.holds Tryz.pinned (.plain (OpenSpec.ofChange fnMinifyScriptSpec)) fnMinifyScriptCard
/-- ITS FALSE NEIGHBOUR. Refute it at one input. -/
def FnMinifyScriptToldWrongFalsely : Prop := Claim7.holds Tryz.pinned (.plain (OpenSpec.ofChange fnMinifyScriptWrong)) fnMinifyScriptCard

/-- THE TOLD AND TIED CARD OF 'n010_67.FnSingleLineScript'. -/
def fnSingleLineScriptCard : Claim7 := { stood := { row := fnSingleLineScriptRow, standIns := [], harness := (true, "c256cb938cc72fea18892de9e5d9619073a373eb5982dca642dd444bd7a14663"), looks := true }, told := true, laidByText := true, laidKinds := [.data, .data, .data, .data, .sentinel, .listed, .data, .pinned], laidTests := true, laidLooks := .later, goes := false }
def FnSingleLineScriptToldSaid : Prop := Claim7.holds Tryz.pinned (.plain (OpenSpec.ofChange fnSingleLineScriptSpec)) fnSingleLineScriptCard
/-- ITS FALSE NEIGHBOUR. Refute it at one input. -/
def FnSingleLineScriptToldWrongFalsely : Prop := Claim7.holds Tryz.pinned (.plain (OpenSpec.ofChange fnSingleLineScriptWrong)) fnSingleLineScriptCard

/-- THE TOLD AND TIED CARD OF 'n010_67.FnKeepPaddingScript'. -/
def fnKeepPaddingScriptCard : Claim7 := { stood := { row := fnKeepPaddingScriptRow, standIns := [], harness := (true, "c256cb938cc72fea18892de9e5d9619073a373eb5982dca642dd444bd7a14663"), looks := true }, told := true, laidByText := true, laidKinds := [.data, .data, .data, .data, .sentinel, .listed, .data, .pinned], laidTests := true, laidLooks := .later, goes := false }
def FnKeepPaddingScriptToldSaid : Prop := Claim7.holds Tryz.pinned (.plain (OpenSpec.ofChange fnKeepPaddingScriptSpec)) fnKeepPaddingScriptCard
/-- ITS FALSE NEIGHBOUR. Refute it at one input. -/
def FnKeepPaddingScriptToldWrongFalsely : Prop := Claim7.holds Tryz.pinned (.plain (OpenSpec.ofChange fnKeepPaddingScriptWrong)) fnKeepPaddingScriptCard

/-- THE TOLD AND TIED CARD OF 'n010_39.FnPrintEmptyFileOneNewline'. -/
def fnPrintEmptyFileOneNewlineCard : Claim7 := { stood := { row := fnPrintEmptyFileOneNewlineRow, standIns := [], harness := (true, "c256cb938cc72fea18892de9e5d9619073a373eb5982dca642dd444bd7a14663"), looks := true }, told := true, laidByText := true, laidKinds := [.data, .data, .data, .data, .sentinel, .listed, .data, .pinned], laidTests := true, laidLooks := .later, goes := false }
def FnPrintEmptyFileOneNewlineToldSaid : Prop := Claim7.holds Tryz.pinned (.plain (OpenSpec.ofChange fnPrintEmptyFileOneNewlineSpec)) fnPrintEmptyFileOneNewlineCard
/-- ITS FALSE NEIGHBOUR. Refute it at one input. -/
def FnPrintEmptyFileOneNewlineToldWrongFalsely : Prop := Claim7.holds Tryz.pinned (.plain (OpenSpec.ofChange fnPrintEmptyFileOneNewlineWrong)) fnPrintEmptyFileOneNewlineCard
end Rows
end Go.Proofs.YtdfgcopelfmcmaaGreatFmt
