/-
  Contracts of bufio.Writer's small methods and of Flush, over any lawful sink.
-/
import Derived.Test.YtdfgcopelfmcmaaGreatFmtProg
import Derived.Test.YtdfgcopelfmcmaaGreatFmtSink
import Derived.Deep.RegionHeld3
import Derived.Deep.QuietTactic
import Derived.BigQuiet
import Derived.StillTailTactics
import Derived.Lib.Hide
namespace Go.Proofs.YtdfgcopelfmcmaaGreatFmt
open Go.RowKit

theorem avail_any (b g : Nat) (n : Int) (w : World) (h0 : 0 ≤ n) (h1 : n ≤ 4096) (hc1 : w.cell? ⟨b, 1, none⟩ = some (.slice (some ⟨g, 0, none⟩) 4096 4096)) (hc2 : w.cell? ⟨b, 2, none⟩ = some (.int .i64 n)) :
    Calls Tryz.prog 239 #[.pointer (some ⟨b, 0, none⟩)] w fun e w' => e = .returned (.int .i64 (4096 - n)) ∧ ∃ k, w' = w.drewN k := by
  go_enter Tryz.func239, Tryz.ntmps239
  go_wp2
  go_quiet (fail)
  go_wp2
  go_ret
  exact ⟨rfl, _, rfl⟩
theorem buffered_any (b : Nat) (n : Int) (w : World) (hc2 : w.cell? ⟨b, 2, none⟩ = some (.int .i64 n)) :
    Calls Tryz.prog 245 #[.pointer (some ⟨b, 0, none⟩)] w fun e w' => e = .returned (.int .i64 n) ∧ w' = w := by
  go_enter Tryz.func245, Tryz.ntmps245
  go_wp2
  go_ret
  exact ⟨rfl, rfl⟩
end Go.Proofs.YtdfgcopelfmcmaaGreatFmt
