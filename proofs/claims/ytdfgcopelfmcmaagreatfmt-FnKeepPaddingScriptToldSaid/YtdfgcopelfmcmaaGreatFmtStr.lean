/-
  The string of a row of bytes.
-/
import Derived.Test.YtdfgcopelfmcmaaGreatFmtRow
import Derived.Laws.IdiomStrings
namespace Go.Proofs.YtdfgcopelfmcmaaGreatFmt
open Go.RowKit

theorem str_of_row {w : World} {v : Value} {l : List UInt8} (h : Row w v l) : (convert 42 9 v).run Tryz.prog w = .ok (.string ⟨l.toArray⟩) w := by
  rcases h.2 with ⟨rfl, h0⟩ | ⟨g, cap, cur, rfl, _, hg, _, _, _, htk⟩
  · obtain rfl := List.length_eq_zero_iff.1 h0
    rw [run_convert_bytes_string w 42 9 5 none 0 0 Tryz.underlying42 Tryz.underlying5 Tryz.underlying9]
    rfl
  · refine run_convert_bytes_back w 42 9 5 ⟨g, 0, none⟩ cap l Tryz.underlying42 Tryz.underlying5 Tryz.underlying9 (fun j hj => ?_)
    exact h.cells rfl j _ (by rw [bv_getElem?, List.getElem?_eq_getElem hj]; rfl)

end Go.Proofs.YtdfgcopelfmcmaaGreatFmt
