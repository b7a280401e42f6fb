/-
  PROVED: for every input the law n010_67.FnMinifyScript returns true (after any script of Minify calls the flag is the last value set, the other flags stay, and printing an empty file is refused exactly when Minify and SingleLine are both on), and its arguments read behind the call as they read before.
  CONDITIONS: those of the given card alone: the listed package-level variables hold what the program's own text lays there; no condition of ours.
-/
import Derived.Test.YtdfgcopelfmcmaaGreatFmtPMC
import Derived.Test.YtdfgcopelfmcmaaGreatFmtN67C
namespace Go.Proofs.YtdfgcopelfmcmaaGreatFmt
theorem fnMinifyScript_told : Rows.FnMinifyScriptToldSaid := pm_holds scriptMi
end Go.Proofs.YtdfgcopelfmcmaaGreatFmt
