/-
  PROVED: for every input the law n010_150.FnWordPartsQuotedKeepsEscapedNewlines returns true (double-quoted literals keep their escaped newlines, and without these print as the literals printed alone, in quotes), and its arguments read behind the call as they read before.
  CONDITIONS: those of the given card alone: the listed package-level variables hold what the program's own text lays there; no condition of ours.
-/
import Derived.Test.YtnhmgjgdkcgmfaaGreatFmtRQC
import Derived.Test.YtnhmgjgdkcgmfaaGreatFmtRQW
namespace Go.Proofs.YtnhmgjgdkcgmfaaGreatFmt
theorem fnWordPartsQuotedKeepsEscapedNewlines_told : Rows.FnWordPartsQuotedKeepsEscapedNewlinesToldSaid := rq_holds rq_main
end Go.Proofs.YtnhmgjgdkcgmfaaGreatFmt
