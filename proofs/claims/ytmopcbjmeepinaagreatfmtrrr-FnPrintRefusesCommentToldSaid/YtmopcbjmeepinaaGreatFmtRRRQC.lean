/-
  PROVED: for every input the law n010_39.FnPrintRefusesComment returns true (SAID), and its arguments read behind the call as they read before.
  CONDITIONS: those of the given card alone: the listed package-level variables hold what the program's own text lays there; no condition of ours.
-/
import Derived.Test.YtmopcbjmeepinaaGreatFmtRRRQCC
import Derived.Test.YtmopcbjmeepinaaGreatFmtRRRQCW
namespace Go.Proofs.YtmopcbjmeepinaaGreatFmtRRR
theorem fnPrintRefusesComment_told : Rows.FnPrintRefusesCommentToldSaid := qc_holds qc_main
end Go.Proofs.YtmopcbjmeepinaaGreatFmtRRR
