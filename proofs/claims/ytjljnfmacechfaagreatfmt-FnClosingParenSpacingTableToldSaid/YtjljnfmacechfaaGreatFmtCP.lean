/-
  PROVED: for every input the law n010_157.FnClosingParenSpacingTable returns true (closingParen prints rightParen's text, behind one space where a lone statement ends in a parenthesis on the same line), and its arguments read behind the call as they read before.
  CONDITIONS: those of the given card alone: the listed package-level variables hold what the program's own text lays there; no condition of ours.
-/
import Derived.Test.YtjljnfmacechfaaGreatFmtCPC
import Derived.Test.YtjljnfmacechfaaGreatFmtCPW
namespace Go.Proofs.YtjljnfmacechfaaGreatFmt
theorem fnClosingParenSpacingTable_told : Rows.FnClosingParenSpacingTableToldSaid := cp_holds fun _ _ _ _ _ _ _ _ _ _ _ _ _ W h1 h2 _ => cp_main _ _ _ _ _ _ _ _ _ _ _ _ _ W h1 h2
end Go.Proofs.YtjljnfmacechfaaGreatFmt
