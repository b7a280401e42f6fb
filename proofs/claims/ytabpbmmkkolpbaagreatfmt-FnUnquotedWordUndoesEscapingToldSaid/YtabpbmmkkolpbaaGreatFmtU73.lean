/-
  PROVED: for every string s the law n010_73.FnUnquotedWordUndoesEscaping returns true (escaping every byte of s with a backslash and printing the literal unquoted gives s back), and its argument reads behind the call as it read before.
  CONDITIONS: those of the given card alone: the listed package-level variables hold what the program's own text lays there; no condition of ours.
-/
import Derived.Test.YtabpbmmkkolpbaaGreatFmtU73C
import Derived.Test.YtabpbmmkkolpbaaGreatFmtU73Y
namespace Go.Proofs.YtabpbmmkkolpbaaGreatFmt
theorem fnUnquotedWordUndoesEscaping_told : Rows.FnUnquotedWordUndoesEscapingToldSaid := u73_holds u73_main
end Go.Proofs.YtabpbmmkkolpbaaGreatFmt
