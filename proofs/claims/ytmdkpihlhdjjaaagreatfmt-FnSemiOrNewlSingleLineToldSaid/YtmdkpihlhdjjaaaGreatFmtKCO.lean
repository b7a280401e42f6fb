/-
  PROVED: for every input the law n010_43.FnSemiOrNewlSingleLine returns true (SAID), and its arguments read behind the call as they read before.
  CONDITIONS: those of the given card alone: the listed package-level variables hold what the program's own text lays there; no condition of ours.
-/
import Derived.Test.YtmdkpihlhdjjaaaGreatFmtKCOC
import Derived.Test.YtmdkpihlhdjjaaaGreatFmtKCOX
namespace Go.Proofs.YtmdkpihlhdjjaaaGreatFmt
theorem fnSemiOrNewlSingleLine_told : Rows.FnSemiOrNewlSingleLineToldSaid := co_holds co_main
end Go.Proofs.YtmdkpihlhdjjaaaGreatFmt
