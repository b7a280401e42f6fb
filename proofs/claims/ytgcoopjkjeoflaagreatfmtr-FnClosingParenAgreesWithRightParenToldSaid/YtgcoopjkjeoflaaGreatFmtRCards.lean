/-
  DERIVED. GIVEN WITH THE SEED: THE CARDS: each row of YtgcoopjkjeoflaaGreatFmtRRows.lean that lists a variable, with what it lists TIED to the program's text (the seventh form; the later family's looks); each row that meets fmt, with fmt's text TOLD by the authors' own Lean function (tested against real Go, not proved from fmt's source: count such statements apart). THE CARD IS WHAT COUNTS. Prove the row's statement (the work); the ties are given (YtgcoopjkjeoflaaGreatFmtRTie.lean); close each card by the builder's one call (the guide's Derived/Test/ToyasCard.lean, 'card_holds'). Laid BY PROGRAM, IN A SANDBOX (cutbox-door.mjs). By AI agents, Wed Nov 11 2026. No macro, syntax, notation, axiom, sorry.
-/
import Derived.Test.YtgcoopjkjeoflaaGreatFmtRRows
import GoSem.ClaimSeven
namespace Go.Proofs.YtgcoopjkjeoflaaGreatFmtR
namespace Rows

/-- THE TOLD AND TIED CARD OF 'n010_157.FnRightParenOneParenLineMonotone'. -/
def fnRightParenOneParenLineMonotoneCard : Claim7 := { stood := { row := fnRightParenOneParenLineMonotoneRow, standIns := [], harness := (true, "00af410853b340329766bbb27f7e4489d839f53083253605d2222ea4dd8086cc"), looks := true }, told := true, laidByText := true, laidKinds := [.data, .data, .data, .data, .listed, .data, .pinned], laidTests := true, laidLooks := .later, goes := false }
def FnRightParenOneParenLineMonotoneToldSaid : Prop := Claim7.holds Tryz.pinned (.plain (OpenSpec.ofChange fnRightParenOneParenLineMonotoneSpec)) fnRightParenOneParenLineMonotoneCard
/-- ITS FALSE NEIGHBOUR. Refute it at one input. -/
def FnRightParenOneParenLineMonotoneToldWrongFalsely : Prop := Claim7.holds Tryz.pinned (.plain (OpenSpec.ofChange fnRightParenOneParenLineMonotoneWrong)) fnRightParenOneParenLineMonotoneCard

/-- THE TOLD AND TIED CARD OF 'n010_157.FnSemiRsrvSeparatorShape'. -/
def fnSemiRsrvSeparatorShapeCard : Claim7 := { stood := { row := fnSemiRsrvSeparatorShapeRow, standIns := [], harness := (true, "00af410853b340329766bbb27f7e4489d839f53083253605d2222ea4dd8086cc"), looks := true }, told := true, laidByText := true, laidKinds := [.data, .data, .data, .data, .listed, .data, .pinned], laidTests := true, laidLooks := .later, goes := false }
def FnSemiRsrvSeparatorShapeToldSaid : Prop := Claim7.holds Tryz.pinned (.plain (OpenSpec.ofChange fnSemiRsrvSeparatorShapeSpec)) fnSemiRsrvSeparatorShapeCard
/-- ITS FALSE NEIGHBOUR. Refute it at one input. -/
def FnSemiRsrvSeparatorShapeToldWrongFalsely : Prop := Claim7.holds Tryz.pinned (.plain (OpenSpec.ofChange fnSemiRsrvSeparatorShapeWrong)) fnSemiRsrvSeparatorShapeCard

/-- THE TOLD AND TIED CARD OF 'n010_157.FnClosingParenAgreesWithRightParen'. -/
def fnClosingParenAgreesWithRightParenCard : Claim7 := { stood := { row := fnClosingParenAgreesWithRightParenRow, standIns := [], harness := (true, "00af410853b340329766bbb27f7e4489d839f53083253605d2222ea4dd8086cc"), looks := true }, told := true, laidByText := true, laidKinds := [.data, .data, .data, .data, .listed, .data, .pinned], laidTests := true, laidLooks := .later, goes := false }
def FnClosingParenAgreesWithRightParenToldSaid : Prop := Claim7.holds Tryz.pinned (.plain (OpenSpec.ofChange fnClosingParenAgreesWithRightParenSpec)) fnClosingParenAgreesWithRightParenCard
/-- ITS FALSE NEIGHBOUR. Refute it at one input. -/
def FnClosingParenAgreesWithRightParenToldWrongFalsely : Prop := Claim7.holds Tryz.pinned (.plain (OpenSpec.ofChange fnClosingParenAgreesWithRightParenWrong)) fnClosingParenAgreesWithRightParenCard
end Rows
end Go.Proofs.YtgcoopjkjeoflaaGreatFmtR
