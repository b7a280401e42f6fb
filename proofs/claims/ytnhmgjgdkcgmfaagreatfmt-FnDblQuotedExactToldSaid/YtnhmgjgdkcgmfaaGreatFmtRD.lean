/-
  PROVED: for every input the law n010_150.FnDblQuotedExact returns true (double-quoted literals on one line print exactly as the literals printed alone, with the escaped newlines up to the closing quote), and its arguments read behind the call as they read before.
  CONDITIONS: those of the given card alone: the listed package-level variables hold what the program's own text lays there; no condition of ours.
-/
import Derived.Test.YtnhmgjgdkcgmfaaGreatFmtRDC
import Derived.Test.YtnhmgjgdkcgmfaaGreatFmtRDW
namespace Go.Proofs.YtnhmgjgdkcgmfaaGreatFmt
theorem fnDblQuotedExact_told : Rows.FnDblQuotedExactToldSaid := rd_holds rd_main
end Go.Proofs.YtnhmgjgdkcgmfaaGreatFmt
