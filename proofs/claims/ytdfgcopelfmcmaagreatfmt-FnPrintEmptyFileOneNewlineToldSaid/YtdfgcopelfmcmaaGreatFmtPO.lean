/-
  PROVED: for every input the law n010_39.FnPrintEmptyFileOneNewline returns true (with Indent at most 2^30 and the other seven options on or off, printing an empty file writes exactly one line feed, or is refused with nothing written where Minify and SingleLine are both on), and its arguments read behind the call as they read before.
  CONDITIONS: those of the given card alone: the listed package-level variables hold what the program's own text lays there; no condition of ours.
-/
import Derived.Test.YtdfgcopelfmcmaaGreatFmtPOC
import Derived.Test.YtdfgcopelfmcmaaGreatFmtPOW
namespace Go.Proofs.YtdfgcopelfmcmaaGreatFmt
theorem fnPrintEmptyFileOneNewline_told : Rows.FnPrintEmptyFileOneNewlineToldSaid := po_holds po_main
end Go.Proofs.YtdfgcopelfmcmaaGreatFmt
