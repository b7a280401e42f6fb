/-
  PROVED: for every input the law n010_157.FnClosingParenAgreesWithRightParen returns true (SAID), and its arguments read behind the call as they read before.
  CONDITIONS: those of the given card alone: the listed package-level variables hold what the program's own text lays there; no condition of ours.
-/
import Derived.Test.YtgcoopjkjeoflaaGreatFmtRCAC
import Derived.Test.YtgcoopjkjeoflaaGreatFmtRCAW
namespace Go.Proofs.YtgcoopjkjeoflaaGreatFmtR
theorem fnClosingParenAgreesWithRightParen_told : Rows.FnClosingParenAgreesWithRightParenToldSaid := ca_holds ca_main
end Go.Proofs.YtgcoopjkjeoflaaGreatFmtR
