/-
  PROVED: for every input the law n010_157.FnSemiRsrvSeparatorShape returns true (SAID), and its arguments read behind the call as they read before.
  CONDITIONS: those of the given card alone: the listed package-level variables hold what the program's own text lays there; no condition of ours.
-/
import Derived.Test.YtgcoopjkjeoflaaGreatFmtRCSC
import Derived.Test.YtgcoopjkjeoflaaGreatFmtRCSW
namespace Go.Proofs.YtgcoopjkjeoflaaGreatFmtR
theorem fnSemiRsrvSeparatorShape_told : Rows.FnSemiRsrvSeparatorShapeToldSaid := cs_holds cs_main
end Go.Proofs.YtgcoopjkjeoflaaGreatFmtR
