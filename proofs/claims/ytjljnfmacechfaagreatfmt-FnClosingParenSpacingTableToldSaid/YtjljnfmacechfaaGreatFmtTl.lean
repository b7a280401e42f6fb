/-
  Which bytes a tabwriter takes for text; a place in a row.
-/
import Derived.Test.YtjljnfmacechfaaGreatFmtMb
import Derived.Deep.LoopGhost
import Derived.Deep.RegionLaw
import Derived.Defers
import Derived.Laws.RangeAny
import Derived.Laws.Runes
import Derived.Lib.ByteType
import Derived.Lib.Hide
import Derived.LoopTactic
import Derived.Recover
import Derived.Shelf.Abstract
import Derived.StillTailTactics
import Derived.Stop.Asserts
import Derived.Stop.CallBack
import Derived.Stop.IfaceNil
namespace Go.Proofs.YtjljnfmacechfaaGreatFmt
open Go.RowKit
def twOk (c : UInt8) : Bool := c != 9 && c != 11 && c != 12 && c != 255
theorem Addr.add_base (g n : Nat) : (Addr.mk g 0 none).add n = ⟨g, n, none⟩ := by rw [Addr.add_lit, Nat.zero_add]
end Go.Proofs.YtjljnfmacechfaaGreatFmt
