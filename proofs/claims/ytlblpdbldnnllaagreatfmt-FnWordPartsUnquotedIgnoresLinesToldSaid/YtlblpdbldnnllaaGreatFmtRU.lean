/-
  PROVED: for every input the law n010_150.FnWordPartsUnquotedIgnoresLines returns true (a word of literals prints as the literals printed alone, joined, whatever their lines), and its arguments read behind the call as they read before.
  CONDITIONS: those of the given card alone: the listed package-level variables hold what the program's own text lays there; no condition of ours.
-/
import Derived.Test.YtlblpdbldnnllaaGreatFmtRUC
import Derived.Test.YtlblpdbldnnllaaGreatFmtRUW
namespace Go.Proofs.YtlblpdbldnnllaaGreatFmt
theorem fnWordPartsUnquotedIgnoresLines_told : Rows.FnWordPartsUnquotedIgnoresLinesToldSaid := ru_holds ru_main
end Go.Proofs.YtlblpdbldnnllaaGreatFmt
