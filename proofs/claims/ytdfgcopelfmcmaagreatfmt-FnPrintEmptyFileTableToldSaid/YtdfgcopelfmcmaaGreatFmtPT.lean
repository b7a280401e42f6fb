/-
  PROVED: for all four flags the law n010_67.FnPrintEmptyFileTable returns true (printing an empty file twice on one printer is refused exactly when Minify and SingleLine are both on, and otherwise writes one line feed), and its arguments read behind the call as they read before.
  CONDITIONS: those of the given card alone: the listed package-level variables hold what the program's own text lays there; no condition of ours.
-/
import Derived.Test.YtdfgcopelfmcmaaGreatFmtPTC
import Derived.Test.YtdfgcopelfmcmaaGreatFmtPTY
namespace Go.Proofs.YtdfgcopelfmcmaaGreatFmt
theorem fnPrintEmptyFileTable_told : Rows.FnPrintEmptyFileTableToldSaid := pt_holds pt_main
end Go.Proofs.YtdfgcopelfmcmaaGreatFmt
