/-
  PROVED: for every input the law n010_39.FnPrintWordOptionsTable returns true (SAID), and its arguments read behind the call as they read before.
  CONDITIONS: those of the given card alone: the listed package-level variables hold what the program's own text lays there; no condition of ours.
-/
import Derived.Test.YtlblpdbldnnllaaGreatFmtQWC
import Derived.Test.YtlblpdbldnnllaaGreatFmtQWW
namespace Go.Proofs.YtlblpdbldnnllaaGreatFmt
theorem fnPrintWordOptionsTable_told : Rows.FnPrintWordOptionsTableToldSaid := qw_holds qw_main
end Go.Proofs.YtlblpdbldnnllaaGreatFmt
