/-
  DERIVED. GIVEN WITH THE SEED: THE CARDS: each row of YtlblpdbldnnllaaGreatFmtRows.lean that lists a variable, with what it lists TIED to the program's text (the seventh form; the later family's looks); each row that meets fmt, with fmt's text TOLD by the authors' own Lean function (tested against real Go, not proved from fmt's source: count such statements apart). THE CARD IS WHAT COUNTS. Prove the row's statement (the work); the ties are given (YtlblpdbldnnllaaGreatFmtTie.lean); close each card by the builder's one call (the guide's Derived/Test/ToyasCard.lean, 'card_holds'). Laid BY PROGRAM, IN A SANDBOX (cutbox-door.mjs). By AI agents, Wed Nov 11 2026. No macro, syntax, notation, axiom, sorry.
-/
import Derived.Test.YtlblpdbldnnllaaGreatFmtRows
import GoSem.ClaimSeven
namespace Go.Proofs.YtlblpdbldnnllaaGreatFmt
namespace Rows

/-- THE TOLD AND TIED CARD OF 'n010_150.FnWordPartLitEscapesOddTrailingBackslash'. -/
def fnWordPartLitEscapesOddTrailingBackslashCard : Claim7 := { stood := { row := fnWordPartLitEscapesOddTrailingBackslashRow, standIns := [], harness := (true, "daa278cdd8f952befc4f8038b1ac9c0fc2122fa5577ab4cb7dbc69ce4d8174fd"), looks := true }, told := true, laidByText := true, laidKinds := [.data, .data, .data, .data, .sentinel, .listed, .data, .pinned], laidTests := true, laidLooks := .later, goes := false }
def FnWordPartLitEscapesOddTrailingBackslashToldSaid : Prop := Claim7.holds Tryz.pinned (.plain (OpenSpec.ofChange fnWordPartLitEscapesOddTrailingBackslashSpec)) fnWordPartLitEscapesOddTrailingBackslashCard
/-- ITS FALSE NEIGHBOUR. Refute it at one input. -/
def FnWordPartLitEscapesOddTrailingBackslashToldWrongFalsely : Prop := Claim7.holds Tryz.pinned (.plain (OpenSpec.ofChange fnWordPartLitEscapesOddTrailingBackslashWrong)) fnWordPartLitEscapesOddTrailingBackslashCard

/-- THE TOLD AND TIED CARD OF 'n010_150.FnWordPartSglQuotedExact'. -/
def fnWordPartSglQuotedExactCard : Claim7 := { stood := { row := fnWordPartSglQuotedExactRow, standIns := [], harness := (true, "daa278cdd8f952befc4f8038b1ac9c0fc2122fa5577ab4cb7dbc69ce4d8174fd"), looks := true }, told := true, laidByText := true, laidKinds := [.data, .data, .data, .data, .sentinel, .listed, .data, .pinned], laidTests := true, laidLooks := .later, goes := false }
def FnWordPartSglQuotedExactToldSaid : Prop := Claim7.holds Tryz.pinned (.plain (OpenSpec.ofChange fnWordPartSglQuotedExactSpec)) fnWordPartSglQuotedExactCard
/-- ITS FALSE NEIGHBOUR. Refute it at one input. -/
def FnWordPartSglQuotedExactToldWrongFalsely : Prop := Claim7.holds Tryz.pinned (.plain (OpenSpec.ofChange fnWordPartSglQuotedExactWrong)) fnWordPartSglQuotedExactCard

/-- THE TOLD AND TIED CARD OF 'n010_39.FnPrintWordOptionsTable'. -/
def fnPrintWordOptionsTableCard : Claim7 := { stood := { row := fnPrintWordOptionsTableRow, standIns := [], harness := (true, "daa278cdd8f952befc4f8038b1ac9c0fc2122fa5577ab4cb7dbc69ce4d8174fd"), looks := true }, told := true, laidByText := true, laidKinds := [.data, .data, .data, .data, .sentinel, .listed, .data, .pinned], laidTests := true, laidLooks := .later, goes := false }
def FnPrintWordOptionsTableToldSaid : Prop := Claim7.holds Tryz.pinned (.plain (OpenSpec.ofChange fnPrintWordOptionsTableSpec)) fnPrintWordOptionsTableCard
/-- ITS FALSE NEIGHBOUR. Refute it at one input. -/
def FnPrintWordOptionsTableToldWrongFalsely : Prop := Claim7.holds Tryz.pinned (.plain (OpenSpec.ofChange fnPrintWordOptionsTableWrong)) fnPrintWordOptionsTableCard

/-- THE TOLD AND TIED CARD OF 'n010_150.FnWordPartsUnquotedIgnoresLines'. -/
def fnWordPartsUnquotedIgnoresLinesCard : Claim7 := { stood := { row := fnWordPartsUnquotedIgnoresLinesRow, standIns := [], harness := (true, "daa278cdd8f952befc4f8038b1ac9c0fc2122fa5577ab4cb7dbc69ce4d8174fd"), looks := true }, told := true, laidByText := true, laidKinds := [.data, .data, .data, .data, .sentinel, .listed, .data, .pinned], laidTests := true, laidLooks := .later, goes := false }
def FnWordPartsUnquotedIgnoresLinesToldSaid : Prop := Claim7.holds Tryz.pinned (.plain (OpenSpec.ofChange fnWordPartsUnquotedIgnoresLinesSpec)) fnWordPartsUnquotedIgnoresLinesCard
/-- ITS FALSE NEIGHBOUR. Refute it at one input. -/
def FnWordPartsUnquotedIgnoresLinesToldWrongFalsely : Prop := Claim7.holds Tryz.pinned (.plain (OpenSpec.ofChange fnWordPartsUnquotedIgnoresLinesWrong)) fnWordPartsUnquotedIgnoresLinesCard

/-- THE TOLD AND TIED CARD OF 'n010_39.FnPrinterReuseStateless'. -/
def fnPrinterReuseStatelessCard : Claim7 := { stood := { row := fnPrinterReuseStatelessRow, standIns := [], harness := (true, "daa278cdd8f952befc4f8038b1ac9c0fc2122fa5577ab4cb7dbc69ce4d8174fd"), looks := true }, told := true, laidByText := true, laidKinds := [.data, .data, .data, .data, .sentinel, .listed, .data, .pinned], laidTests := true, laidLooks := .later, goes := false }
def FnPrinterReuseStatelessToldSaid : Prop := Claim7.holds Tryz.pinned (.plain (OpenSpec.ofChange fnPrinterReuseStatelessSpec)) fnPrinterReuseStatelessCard
/-- ITS FALSE NEIGHBOUR. Refute it at one input. -/
def FnPrinterReuseStatelessToldWrongFalsely : Prop := Claim7.holds Tryz.pinned (.plain (OpenSpec.ofChange fnPrinterReuseStatelessWrong)) fnPrinterReuseStatelessCard
end Rows
end Go.Proofs.YtlblpdbldnnllaaGreatFmt
