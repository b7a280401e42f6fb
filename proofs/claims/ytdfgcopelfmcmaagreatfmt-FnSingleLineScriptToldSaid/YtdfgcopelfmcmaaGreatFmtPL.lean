/-
  PROVED: for every input the law n010_67.FnSingleLineScript returns true (after any script of SingleLine calls the flag is the last value set, the other flags stay, and printing an empty file is refused exactly when Minify and SingleLine are both on), and its arguments read behind the call as they read before.
  CONDITIONS: those of the given card alone: the listed package-level variables hold what the program's own text lays there; no condition of ours.
-/
import Derived.Test.YtdfgcopelfmcmaaGreatFmtPLC
import Derived.Test.YtdfgcopelfmcmaaGreatFmtN67C
namespace Go.Proofs.YtdfgcopelfmcmaaGreatFmt
theorem fnSingleLineScript_told : Rows.FnSingleLineScriptToldSaid := pl_holds scriptSi
end Go.Proofs.YtdfgcopelfmcmaaGreatFmt
