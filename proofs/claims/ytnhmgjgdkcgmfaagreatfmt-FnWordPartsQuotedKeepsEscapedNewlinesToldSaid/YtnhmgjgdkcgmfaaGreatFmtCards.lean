/-
  DERIVED. GIVEN WITH THE SEED: THE CARDS: each row of YtnhmgjgdkcgmfaaGreatFmtRows.lean that lists a variable, with what it lists TIED to the program's text (the seventh form; the later family's looks); each row that meets fmt, with fmt's text TOLD by the authors' own Lean function (tested against real Go, not proved from fmt's source: count such statements apart). THE CARD IS WHAT COUNTS. Prove the row's statement (the work); the ties are given (YtnhmgjgdkcgmfaaGreatFmtTie.lean); close each card by the builder's one call (the guide's Derived/Test/ToyasCard.lean, 'card_holds'). Laid BY PROGRAM, IN A SANDBOX (cutbox-door.mjs). By AI agents, Wed Nov 11 2026. No macro, syntax, notation, axiom, sorry.
-/
import Derived.Test.YtnhmgjgdkcgmfaaGreatFmtRows
import GoSem.ClaimSeven
namespace Go.Proofs.YtnhmgjgdkcgmfaaGreatFmt
namespace Rows

/-- THE TOLD AND TIED CARD OF 'n010_150.FnWordPartsQuotedKeepsEscapedNewlines'. -/
def fnWordPartsQuotedKeepsEscapedNewlinesCard : Claim7 := { stood := { row := fnWordPartsQuotedKeepsEscapedNewlinesRow, standIns := [], harness := (true, "4f0cb36ffdbb0bfa4d7707b60213d9eb10068fc102372b78bc7266731d83cd39"), looks := true }, told := true, laidByText := true, laidKinds := [.data, .data, .data, .data, .sentinel, .listed, .data, .pinned], laidTests := true, laidLooks := .later, goes := false }
def FnWordPartsQuotedKeepsEscapedNewlinesToldSaid : Prop := Claim7.holds Tryz.pinned (.plain (OpenSpec.ofChange fnWordPartsQuotedKeepsEscapedNewlinesSpec)) fnWordPartsQuotedKeepsEscapedNewlinesCard
/-- ITS FALSE NEIGHBOUR. Refute it at one input. -/
def FnWordPartsQuotedKeepsEscapedNewlinesToldWrongFalsely : Prop := Claim7.holds Tryz.pinned (.plain (OpenSpec.ofChange fnWordPartsQuotedKeepsEscapedNewlinesWrong)) fnWordPartsQuotedKeepsEscapedNewlinesCard

/-- THE TOLD AND TIED CARD OF 'n010_150.FnDblQuotedDollarPrefixAndMinifyNeutral'. -/
def fnDblQuotedDollarPrefixAndMinifyNeutralCard : Claim7 := { stood := { row := fnDblQuotedDollarPrefixAndMinifyNeutralRow, standIns := [], harness := (true, "4f0cb36ffdbb0bfa4d7707b60213d9eb10068fc102372b78bc7266731d83cd39"), looks := true }, told := true, laidByText := true, laidKinds := [.data, .data, .data, .data, .sentinel, .listed, .data, .pinned], laidTests := true, laidLooks := .later, goes := false }
def FnDblQuotedDollarPrefixAndMinifyNeutralToldSaid : Prop := Claim7.holds Tryz.pinned (.plain (OpenSpec.ofChange fnDblQuotedDollarPrefixAndMinifyNeutralSpec)) fnDblQuotedDollarPrefixAndMinifyNeutralCard
/-- ITS FALSE NEIGHBOUR. Refute it at one input. -/
def FnDblQuotedDollarPrefixAndMinifyNeutralToldWrongFalsely : Prop := Claim7.holds Tryz.pinned (.plain (OpenSpec.ofChange fnDblQuotedDollarPrefixAndMinifyNeutralWrong)) fnDblQuotedDollarPrefixAndMinifyNeutralCard

/-- THE TOLD AND TIED CARD OF 'n010_150.FnDblQuotedExact'. -/
def fnDblQuotedExactCard : Claim7 := { stood := { row := fnDblQuotedExactRow, standIns := [], harness := (true, "4f0cb36ffdbb0bfa4d7707b60213d9eb10068fc102372b78bc7266731d83cd39"), looks := true }, told := true, laidByText := true, laidKinds := [.data, .data, .data, .data, .sentinel, .listed, .data, .pinned], laidTests := true, laidLooks := .later, goes := false }
def FnDblQuotedExactToldSaid : Prop := Claim7.holds Tryz.pinned (.plain (OpenSpec.ofChange fnDblQuotedExactSpec)) fnDblQuotedExactCard
/-- ITS FALSE NEIGHBOUR. Refute it at one input. -/
def FnDblQuotedExactToldWrongFalsely : Prop := Claim7.holds Tryz.pinned (.plain (OpenSpec.ofChange fnDblQuotedExactWrong)) fnDblQuotedExactCard
end Rows
end Go.Proofs.YtnhmgjgdkcgmfaaGreatFmt
