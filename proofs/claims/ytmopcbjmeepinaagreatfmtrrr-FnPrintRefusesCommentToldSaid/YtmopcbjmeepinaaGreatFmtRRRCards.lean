/-
  DERIVED. GIVEN WITH THE SEED: THE CARDS: each row of YtmopcbjmeepinaaGreatFmtRRRRows.lean that lists a variable, with what it lists TIED to the program's text (the seventh form; the later family's looks); each row that meets fmt, with fmt's text TOLD by the authors' own Lean function (tested against real Go, not proved from fmt's source: count such statements apart). THE CARD IS WHAT COUNTS. Prove the row's statement (the work); the ties are given (YtmopcbjmeepinaaGreatFmtRRRTie.lean); close each card by the builder's one call (the guide's Derived/Test/ToyasCard.lean, 'card_holds'). Laid BY PROGRAM, IN A SANDBOX (cutbox-door.mjs). By AI agents, Wed Nov 11 2026. No macro, syntax, notation, axiom, sorry.
-/
import Derived.Test.YtmopcbjmeepinaaGreatFmtRRRRows
import GoSem.ClaimSeven
namespace Go.Proofs.YtmopcbjmeepinaaGreatFmtRRR
namespace Rows

/-- THE TOLD AND TIED CARD OF 'n010_39.FnPrintRefusesComment'. -/
def fnPrintRefusesCommentCard : Claim7 := { stood := { row := fnPrintRefusesCommentRow, standIns := [], harness := (true, "8f6384759b7445577f1930325c1b7d4867fcd8505f044641b3c0fb51b5629eda"), looks := true }, told := true, laidByText := true, laidKinds := [.data, .data, .data, .data, .sentinel, .listed, .data, .pinned], laidTests := true, laidLooks := .later, goes := false }
def FnPrintRefusesCommentToldSaid : Prop := Claim7.holds Tryz.pinned (.plain (OpenSpec.ofChange fnPrintRefusesCommentSpec)) fnPrintRefusesCommentCard
/-- ITS FALSE NEIGHBOUR. Refute it at one input. -/
def FnPrintRefusesCommentToldWrongFalsely : Prop := Claim7.holds Tryz.pinned (.plain (OpenSpec.ofChange fnPrintRefusesCommentWrong)) fnPrintRefusesCommentCard

/-- THE TOLD AND TIED CARD OF 'n010_39.FnPrintWordOptionsTable'. -/
def fnPrintWordOptionsTableCard : Claim7 := { stood := { row := fnPrintWordOptionsTableRow, standIns := [], harness := (true, "8f6384759b7445577f1930325c1b7d4867fcd8505f044641b3c0fb51b5629eda"), looks := true }, told := true, laidByText := true, laidKinds := [.data, .data, .data, .data, .sentinel, .listed, .data, .pinned], laidTests := true, laidLooks := .later, goes := false }
def FnPrintWordOptionsTableToldSaid : Prop := Claim7.holds Tryz.pinned (.plain (OpenSpec.ofChange fnPrintWordOptionsTableSpec)) fnPrintWordOptionsTableCard
/-- ITS FALSE NEIGHBOUR. Refute it at one input. -/
def FnPrintWordOptionsTableToldWrongFalsely : Prop := Claim7.holds Tryz.pinned (.plain (OpenSpec.ofChange fnPrintWordOptionsTableWrong)) fnPrintWordOptionsTableCard

/-- THE TOLD AND TIED CARD OF 'n010_39.FnPrinterReuseStateless'. -/
def fnPrinterReuseStatelessCard : Claim7 := { stood := { row := fnPrinterReuseStatelessRow, standIns := [], harness := (true, "8f6384759b7445577f1930325c1b7d4867fcd8505f044641b3c0fb51b5629eda"), looks := true }, told := true, laidByText := true, laidKinds := [.data, .data, .data, .data, .sentinel, .listed, .data, .pinned], laidTests := true, laidLooks := .later, goes := false }
def FnPrinterReuseStatelessToldSaid : Prop := Claim7.holds Tryz.pinned (.plain (OpenSpec.ofChange fnPrinterReuseStatelessSpec)) fnPrinterReuseStatelessCard
/-- ITS FALSE NEIGHBOUR. Refute it at one input. -/
def FnPrinterReuseStatelessToldWrongFalsely : Prop := Claim7.holds Tryz.pinned (.plain (OpenSpec.ofChange fnPrinterReuseStatelessWrong)) fnPrinterReuseStatelessCard

/-- THE TOLD AND TIED CARD OF 'n010_150.FnWordPartLitEscapesOddTrailingBackslash'. -/
def fnWordPartLitEscapesOddTrailingBackslashCard : Claim7 := { stood := { row := fnWordPartLitEscapesOddTrailingBackslashRow, standIns := [], harness := (true, "8f6384759b7445577f1930325c1b7d4867fcd8505f044641b3c0fb51b5629eda"), looks := true }, told := true, laidByText := true, laidKinds := [.data, .data, .data, .data, .sentinel, .listed, .data, .pinned], laidTests := true, laidLooks := .later, goes := false }
def FnWordPartLitEscapesOddTrailingBackslashToldSaid : Prop := Claim7.holds Tryz.pinned (.plain (OpenSpec.ofChange fnWordPartLitEscapesOddTrailingBackslashSpec)) fnWordPartLitEscapesOddTrailingBackslashCard
/-- ITS FALSE NEIGHBOUR. Refute it at one input. -/
def FnWordPartLitEscapesOddTrailingBackslashToldWrongFalsely : Prop := Claim7.holds Tryz.pinned (.plain (OpenSpec.ofChange fnWordPartLitEscapesOddTrailingBackslashWrong)) fnWordPartLitEscapesOddTrailingBackslashCard

/-- THE TOLD AND TIED CARD OF 'n010_150.FnWordPartSglQuotedExact'. -/
def fnWordPartSglQuotedExactCard : Claim7 := { stood := { row := fnWordPartSglQuotedExactRow, standIns := [], harness := (true, "8f6384759b7445577f1930325c1b7d4867fcd8505f044641b3c0fb51b5629eda"), looks := true }, told := true, laidByText := true, laidKinds := [.data, .data, .data, .data, .sentinel, .listed, .data, .pinned], laidTests := true, laidLooks := .later, goes := false }
def FnWordPartSglQuotedExactToldSaid : Prop := Claim7.holds Tryz.pinned (.plain (OpenSpec.ofChange fnWordPartSglQuotedExactSpec)) fnWordPartSglQuotedExactCard
/-- ITS FALSE NEIGHBOUR. Refute it at one input. -/
def FnWordPartSglQuotedExactToldWrongFalsely : Prop := Claim7.holds Tryz.pinned (.plain (OpenSpec.ofChange fnWordPartSglQuotedExactWrong)) fnWordPartSglQuotedExactCard

/-- THE TOLD AND TIED CARD OF 'n010_150.FnWordPartsUnquotedIgnoresLines'. -/
def fnWordPartsUnquotedIgnoresLinesCard : Claim7 := { stood := { row := fnWordPartsUnquotedIgnoresLinesRow, standIns := [], harness := (true, "8f6384759b7445577f1930325c1b7d4867fcd8505f044641b3c0fb51b5629eda"), looks := true }, told := true, laidByText := true, laidKinds := [.data, .data, .data, .data, .sentinel, .listed, .data, .pinned], laidTests := true, laidLooks := .later, goes := false }
def FnWordPartsUnquotedIgnoresLinesToldSaid : Prop := Claim7.holds Tryz.pinned (.plain (OpenSpec.ofChange fnWordPartsUnquotedIgnoresLinesSpec)) fnWordPartsUnquotedIgnoresLinesCard
/-- ITS FALSE NEIGHBOUR. Refute it at one input. -/
def FnWordPartsUnquotedIgnoresLinesToldWrongFalsely : Prop := Claim7.holds Tryz.pinned (.plain (OpenSpec.ofChange fnWordPartsUnquotedIgnoresLinesWrong)) fnWordPartsUnquotedIgnoresLinesCard

/-- THE TOLD AND TIED CARD OF 'n010_122.FnCmdSubstCallText'. -/
def fnCmdSubstCallTextCard : Claim7 := { stood := { row := fnCmdSubstCallTextRow, standIns := [], harness := (true, "8f6384759b7445577f1930325c1b7d4867fcd8505f044641b3c0fb51b5629eda"), looks := true }, told := true, laidByText := true, laidKinds := [.data, .data, .data, .data, .sentinel, .listed, .data, .pinned], laidTests := true, laidLooks := .later, goes := false }
def FnCmdSubstCallTextToldSaid : Prop := Claim7.holds Tryz.pinned (.plain (OpenSpec.ofChange fnCmdSubstCallTextSpec)) fnCmdSubstCallTextCard
/-- ITS FALSE NEIGHBOUR. Refute it at one input. -/
def FnCmdSubstCallTextToldWrongFalsely : Prop := Claim7.holds Tryz.pinned (.plain (OpenSpec.ofChange fnCmdSubstCallTextWrong)) fnCmdSubstCallTextCard

/-- THE TOLD AND TIED CARD OF 'n010_122.FnLoopWordIterText'. -/
def fnLoopWordIterTextCard : Claim7 := { stood := { row := fnLoopWordIterTextRow, standIns := [], harness := (true, "8f6384759b7445577f1930325c1b7d4867fcd8505f044641b3c0fb51b5629eda"), looks := true }, told := true, laidByText := true, laidKinds := [.data, .data, .data, .data, .sentinel, .listed, .data, .pinned], laidTests := true, laidLooks := .later, goes := false }
def FnLoopWordIterTextToldSaid : Prop := Claim7.holds Tryz.pinned (.plain (OpenSpec.ofChange fnLoopWordIterTextSpec)) fnLoopWordIterTextCard
/-- ITS FALSE NEIGHBOUR. Refute it at one input. -/
def FnLoopWordIterTextToldWrongFalsely : Prop := Claim7.holds Tryz.pinned (.plain (OpenSpec.ofChange fnLoopWordIterTextWrong)) fnLoopWordIterTextCard

/-- THE TOLD AND TIED CARD OF 'n010_122.FnParamExpTailForms'. -/
def fnParamExpTailFormsCard : Claim7 := { stood := { row := fnParamExpTailFormsRow, standIns := [], harness := (true, "8f6384759b7445577f1930325c1b7d4867fcd8505f044641b3c0fb51b5629eda"), looks := true }, told := true, laidByText := true, laidKinds := [.data, .data, .data, .data, .sentinel, .listed, .data, .pinned], laidTests := true, laidLooks := .later, goes := false }
def FnParamExpTailFormsToldSaid : Prop := Claim7.holds Tryz.pinned (.plain (OpenSpec.ofChange fnParamExpTailFormsSpec)) fnParamExpTailFormsCard
/-- ITS FALSE NEIGHBOUR. Refute it at one input. -/
def FnParamExpTailFormsToldWrongFalsely : Prop := Claim7.holds Tryz.pinned (.plain (OpenSpec.ofChange fnParamExpTailFormsWrong)) fnParamExpTailFormsCard
end Rows
end Go.Proofs.YtmopcbjmeepinaaGreatFmtRRR
