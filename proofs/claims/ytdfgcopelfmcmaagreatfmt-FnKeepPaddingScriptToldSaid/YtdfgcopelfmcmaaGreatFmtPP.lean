/-
  PROVED: for every input the law n010_67.FnKeepPaddingScript returns true (after any script of KeepPadding calls the flag is the last value set, the writer is the column counter exactly when it is on and the plain one exactly when it is off, and an empty file prints as one line feed), and its arguments read behind the call as they read before.
  CONDITIONS: those of the given card alone: the listed package-level variables hold what the program's own text lays there; no condition of ours.
-/
import Derived.Test.YtdfgcopelfmcmaaGreatFmtPPC
import Derived.Test.YtdfgcopelfmcmaaGreatFmtN67D
namespace Go.Proofs.YtdfgcopelfmcmaaGreatFmt
theorem fnKeepPaddingScript_told : Rows.FnKeepPaddingScriptToldSaid := pp_holds scriptKp
end Go.Proofs.YtdfgcopelfmcmaaGreatFmt
