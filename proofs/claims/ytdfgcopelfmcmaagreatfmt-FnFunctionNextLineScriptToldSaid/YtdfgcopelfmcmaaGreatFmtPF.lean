/-
  PROVED: for every input the law n010_67.FnFunctionNextLineScript returns true (after any script of FunctionNextLine calls the flag is the last value set, the other flags stay, and printing an empty file is refused exactly when Minify and SingleLine are both on), and its arguments read behind the call as they read before.
  CONDITIONS: those of the given card alone: the listed package-level variables hold what the program's own text lays there; no condition of ours.
-/
import Derived.Test.YtdfgcopelfmcmaaGreatFmtPFC
import Derived.Test.YtdfgcopelfmcmaaGreatFmtN67C
namespace Go.Proofs.YtdfgcopelfmcmaaGreatFmt
theorem fnFunctionNextLineScript_told : Rows.FnFunctionNextLineScriptToldSaid := pf_holds scriptFn
end Go.Proofs.YtdfgcopelfmcmaaGreatFmt
