/-
  PROVED: for every input the law n010_150.FnWordPartLitEscapesOddTrailingBackslash returns true (a literal prints as itself, or with one backslash more, whichever ends in an even number of backslashes), and its arguments read behind the call as they read before.
  CONDITIONS: those of the given card alone: the listed package-level variables hold what the program's own text lays there; no condition of ours.
-/
import Derived.Test.YtlblpdbldnnllaaGreatFmtRLC
import Derived.Test.YtlblpdbldnnllaaGreatFmtRLW
namespace Go.Proofs.YtlblpdbldnnllaaGreatFmt
theorem fnWordPartLitEscapesOddTrailingBackslash_told : Rows.FnWordPartLitEscapesOddTrailingBackslashToldSaid := rl_holds rl_main
end Go.Proofs.YtlblpdbldnnllaaGreatFmt
