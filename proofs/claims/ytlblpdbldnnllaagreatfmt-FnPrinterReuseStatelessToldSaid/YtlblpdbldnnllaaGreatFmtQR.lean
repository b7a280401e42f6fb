/-
  PROVED: for every input the law n010_39.FnPrinterReuseStateless returns true (SAID), and its arguments read behind the call as they read before.
  CONDITIONS: those of the given card alone: the listed package-level variables hold what the program's own text lays there; no condition of ours.
-/
import Derived.Test.YtlblpdbldnnllaaGreatFmtQRC
import Derived.Test.YtlblpdbldnnllaaGreatFmtQRW
namespace Go.Proofs.YtlblpdbldnnllaaGreatFmt
theorem fnPrinterReuseStateless_told : Rows.FnPrinterReuseStatelessToldSaid := qr_holds qr_main
end Go.Proofs.YtlblpdbldnnllaaGreatFmt
