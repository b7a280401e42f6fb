/-
  PROVED: for every input the law n010_150.FnWordPartSglQuotedExact returns true (a single-quoted part prints as an optional dollar sign, a quote, its value and a quote, minified or not), and its arguments read behind the call as they read before.
  CONDITIONS: those of the given card alone: the listed package-level variables hold what the program's own text lays there; no condition of ours.
-/
import Derived.Test.YtlblpdbldnnllaaGreatFmtRSC
import Derived.Test.YtlblpdbldnnllaaGreatFmtRSW
namespace Go.Proofs.YtlblpdbldnnllaaGreatFmt
theorem fnWordPartSglQuotedExact_told : Rows.FnWordPartSglQuotedExactToldSaid := rs_holds rs_main
end Go.Proofs.YtlblpdbldnnllaaGreatFmt
