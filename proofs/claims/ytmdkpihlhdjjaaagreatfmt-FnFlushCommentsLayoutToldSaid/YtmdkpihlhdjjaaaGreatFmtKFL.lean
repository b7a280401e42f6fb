/-
  PROVED: for every input the law n010_157.FnFlushCommentsLayout returns true (flushComments prints for each comment its leader, # and the text without the white space behind it, wrapped where it holds a tab; the line and the flags behind it are as the table says), and its arguments read behind the call as they read before.
  CONDITIONS: those of the given card alone: the listed package-level variables hold what the program's own text lays there; no condition of ours.
-/
import Derived.Test.YtmdkpihlhdjjaaaGreatFmtKFLC
import Derived.Test.YtmdkpihlhdjjaaaGreatFmtKFLW
namespace Go.Proofs.YtmdkpihlhdjjaaaGreatFmt
theorem fnFlushCommentsLayout_told : Rows.FnFlushCommentsLayoutToldSaid := fl_holds fl_main
end Go.Proofs.YtmdkpihlhdjjaaaGreatFmt
