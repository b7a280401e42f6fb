/-
  The tables of unicode/utf8 and unicode, off a row's list of laid variables.
-/
import Derived.Test.YtmdkpihlhdjjaaaGreatFmtRows
import Derived.Test.YtmdkpihlhdjjaaaGreatFmtShelf
import Derived.Lib.LaidU8
namespace Go.Proofs.YtmdkpihlhdjjaaaGreatFmt
open Go.RowKit Go.Shelf Go.Lib

set_option maxRecDepth 1000000 in
theorem tabs_of_laid {W : World} (hL : laidMet Tryz.prog Rows.fnFlushCommentsSecondCallSilentRow.laid W) : Lib.Utf8Tabs 2 3 W ∧ Lib.WhiteTab 0 W := by
  have e3 : Rows.laid_unicode_utf8_first = Lib.firstData := by kernel_rfl
  have e4 : (Rows.laid_unicode_utf8_acceptRanges : DataW Unit) = Lib.acceptData := by kernel_rfl
  have e6 : (Rows.laid_unicode_White_Space : DataW Unit) = Lib.whiteData := by kernel_rfl
  have h3 : Lib.VarReads Tryz.prog W "unicode/utf8.first" Rows.laid_unicode_utf8_first := Lib.laidMet.reads hL (by first | exact .head _ | exact .tail _ (.head _) | exact .tail _ (.tail _ (.head _)) | exact .tail _ (.tail _ (.tail _ (.head _))) | exact .tail _ (.tail _ (.tail _ (.tail _ (.head _)))) | exact .tail _ (.tail _ (.tail _ (.tail _ (.tail _ (.head _))))) | exact .tail _ (.tail _ (.tail _ (.tail _ (.tail _ (.tail _ (.head _)))))) | exact .tail _ (.tail _ (.tail _ (.tail _ (.tail _ (.tail _ (.tail _ (.head _))))))) | exact .tail _ (.tail _ (.tail _ (.tail _ (.tail _ (.tail _ (.tail _ (.tail _ (.head _)))))))))
  have h4 : Lib.VarReads Tryz.prog W "unicode/utf8.acceptRanges" Rows.laid_unicode_utf8_acceptRanges := Lib.laidMet.reads hL (by first | exact .head _ | exact .tail _ (.head _) | exact .tail _ (.tail _ (.head _)) | exact .tail _ (.tail _ (.tail _ (.head _))) | exact .tail _ (.tail _ (.tail _ (.tail _ (.head _)))) | exact .tail _ (.tail _ (.tail _ (.tail _ (.tail _ (.head _))))) | exact .tail _ (.tail _ (.tail _ (.tail _ (.tail _ (.tail _ (.head _)))))) | exact .tail _ (.tail _ (.tail _ (.tail _ (.tail _ (.tail _ (.tail _ (.head _))))))) | exact .tail _ (.tail _ (.tail _ (.tail _ (.tail _ (.tail _ (.tail _ (.tail _ (.head _)))))))))
  have h6 : Lib.VarReads Tryz.prog W "unicode.White_Space" Rows.laid_unicode_White_Space := Lib.laidMet.reads hL (by first | exact .head _ | exact .tail _ (.head _) | exact .tail _ (.tail _ (.head _)) | exact .tail _ (.tail _ (.tail _ (.head _))) | exact .tail _ (.tail _ (.tail _ (.tail _ (.head _)))) | exact .tail _ (.tail _ (.tail _ (.tail _ (.tail _ (.head _))))) | exact .tail _ (.tail _ (.tail _ (.tail _ (.tail _ (.tail _ (.head _)))))) | exact .tail _ (.tail _ (.tail _ (.tail _ (.tail _ (.tail _ (.tail _ (.head _))))))) | exact .tail _ (.tail _ (.tail _ (.tail _ (.tail _ (.tail _ (.tail _ (.tail _ (.head _)))))))))
  rw [e3] at h3
  rw [e4] at h4
  rw [e6] at h6
  exact ⟨utf8Tabs_of_reads { Tryz.lays238 with } ⟨by kernel_rfl, by kernel_rfl, by kernel_rfl, by kernel_rfl, by kernel_rfl, by kernel_rfl, by kernel_rfl⟩ h3 h4,
    whiteTab_of_reads Tryz.lays199 ⟨by kernel_rfl, by kernel_rfl, by kernel_rfl, by kernel_rfl, by kernel_rfl, by kernel_rfl, by kernel_rfl, by kernel_rfl⟩ h6⟩
end Go.Proofs.YtmdkpihlhdjjaaaGreatFmt
