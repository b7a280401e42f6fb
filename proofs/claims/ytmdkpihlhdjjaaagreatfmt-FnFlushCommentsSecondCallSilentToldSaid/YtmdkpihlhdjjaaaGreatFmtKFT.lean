/-
  PROVED: for every input the law n010_157.FnFlushCommentsSecondCallSilent returns true (a second flushComments prints nothing and leaves the state; the first prints at least one hash a comment and moves the line on), and its arguments read behind the call as they read before.
  CONDITIONS: those of the given card alone: the listed package-level variables hold what the program's own text lays there; no condition of ours.
-/
import Derived.Test.YtmdkpihlhdjjaaaGreatFmtKFTC
import Derived.Test.YtmdkpihlhdjjaaaGreatFmtKFTW
namespace Go.Proofs.YtmdkpihlhdjjaaaGreatFmt
theorem fnFlushCommentsSecondCallSilent_told : Rows.FnFlushCommentsSecondCallSilentToldSaid := ft_holds ft_main
end Go.Proofs.YtmdkpihlhdjjaaaGreatFmt
