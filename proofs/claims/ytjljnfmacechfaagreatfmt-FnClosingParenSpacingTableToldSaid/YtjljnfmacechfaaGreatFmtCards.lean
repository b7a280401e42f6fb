/-
  DERIVED. GIVEN WITH THE SEED: THE CARDS: each row of YtjljnfmacechfaaGreatFmtRows.lean that lists a variable, with what it lists TIED to the program's text (the seventh form; the later family's looks); each row that meets fmt, with fmt's text TOLD by the authors' own Lean function (tested against real Go, not proved from fmt's source: count such statements apart). THE CARD IS WHAT COUNTS. Prove the row's statement (the work); the ties are given (YtjljnfmacechfaaGreatFmtTie.lean); close each card by the builder's one call (the guide's Derived/Test/ToyasCard.lean, 'card_holds'). Laid BY PROGRAM, IN A SANDBOX (cutbox-door.mjs). By AI agents, Wed Nov 11 2026. No macro, syntax, notation, axiom, sorry.
-/
import Derived.Test.YtjljnfmacechfaaGreatFmtRows
import GoSem.ClaimSeven
namespace Go.Proofs.YtjljnfmacechfaaGreatFmt
namespace Rows

/-- THE TOLD AND TIED CARD OF 'n010_157.FnClosingParenSpacingTable'. -/
def fnClosingParenSpacingTableCard : Claim7 := { stood := { row := fnClosingParenSpacingTableRow, standIns := [], harness := (true, "a040f8a556892421099f6c7d51e316aedaa17285542f4926862bd2405afd25ab"), looks := true }, told := true, laidByText := true, laidKinds := [.data, .data, .data, .data, .listed, .data, .pinned], laidTests := true, laidLooks := .later, goes := false }
def FnClosingParenSpacingTableToldSaid : Prop := Claim7.holds Tryz.pinned (.plain (OpenSpec.ofChange fnClosingParenSpacingTableSpec)) fnClosingParenSpacingTableCard
/-- ITS FALSE NEIGHBOUR. Refute it at one input. -/
def FnClosingParenSpacingTableToldWrongFalsely : Prop := Claim7.holds Tryz.pinned (.plain (OpenSpec.ofChange fnClosingParenSpacingTableWrong)) fnClosingParenSpacingTableCard
end Rows
end Go.Proofs.YtjljnfmacechfaaGreatFmt
