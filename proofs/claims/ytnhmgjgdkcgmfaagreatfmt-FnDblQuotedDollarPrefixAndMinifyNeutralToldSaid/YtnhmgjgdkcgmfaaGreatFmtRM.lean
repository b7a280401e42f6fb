/-
  PROVED: for every input the law n010_150.FnDblQuotedDollarPrefixAndMinifyNeutral returns true (the dollar sign is one byte more ahead, and minify changes nothing), and its arguments read behind the call as they read before.
  CONDITIONS: those of the given card alone: the listed package-level variables hold what the program's own text lays there; no condition of ours.
-/
import Derived.Test.YtnhmgjgdkcgmfaaGreatFmtRMC
import Derived.Test.YtnhmgjgdkcgmfaaGreatFmtRMW
namespace Go.Proofs.YtnhmgjgdkcgmfaaGreatFmt
theorem fnDblQuotedDollarPrefixAndMinifyNeutral_told : Rows.FnDblQuotedDollarPrefixAndMinifyNeutralToldSaid := rm_holds rm_main
end Go.Proofs.YtnhmgjgdkcgmfaaGreatFmt
