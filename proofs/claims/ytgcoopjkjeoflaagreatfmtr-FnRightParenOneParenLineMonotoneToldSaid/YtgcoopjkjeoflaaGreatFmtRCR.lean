/-
  PROVED: for every input the law n010_157.FnRightParenOneParenLineMonotone returns true (SAID), and its arguments read behind the call as they read before.
  CONDITIONS: those of the given card alone: the listed package-level variables hold what the program's own text lays there; no condition of ours.
-/
import Derived.Test.YtgcoopjkjeoflaaGreatFmtRCRC
import Derived.Test.YtgcoopjkjeoflaaGreatFmtRCRW
namespace Go.Proofs.YtgcoopjkjeoflaaGreatFmtR
theorem fnRightParenOneParenLineMonotone_told : Rows.FnRightParenOneParenLineMonotoneToldSaid := cr_holds cr_main
end Go.Proofs.YtgcoopjkjeoflaaGreatFmtR
