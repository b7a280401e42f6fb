/-
  n010_67.FnPrintEmptyFileTable: the row's closed facts, each by itself.
-/
import Derived.Test.YtdfgcopelfmcmaaGreatFmtCard
import Derived.Test.YtdfgcopelfmcmaaGreatFmtCards
namespace Go.Proofs.YtdfgcopelfmcmaaGreatFmt
open Go.Extern.Stop Go.Stop Go.Extern
namespace PT
theorem hw : Rows.fnPrintEmptyFileTableRow.wfByText (OpenSpec.ofChange Rows.fnPrintEmptyFileTableSpec) = true := by kernel_rfl
theorem htie : namedTie Tryz.pinned.checked.prog Rows.fnPrintEmptyFileTableRow.namedList (OpenSpec.ofChange Rows.fnPrintEmptyFileTableSpec).vars = true := by kernel_rfl
theorem hfn : Tryz.pinned.checked.prog.funcNamed Rows.fnPrintEmptyFileTableRow.func = some 3 := by kernel_rfl
theorem hr : (Tryz.f3.params.toList.all fun t => Tryz.pinned.checked.prog.readableRec t) = true := by kernel_rfl
theorem hinst : Tryz.f3.isInstance Tryz.pinned.checked.prog Rows.fnPrintEmptyFileTableRow.origin Rows.fnPrintEmptyFileTableRow.targs := of_decide_eq_true (by kernel_rfl)
theorem hwrap : Tryz.f3.isWrapper Tryz.pinned.checked.prog Rows.fnPrintEmptyFileTableRow.wrapper Rows.fnPrintEmptyFileTableRow.mainSum := of_decide_eq_true (by kernel_rfl)
theorem hstops : Rows.fnPrintEmptyFileTableRow.stops = Tryz.pinned.checked.prog.stops := stopsK.symm
theorem hin : Rows.fnPrintEmptyFileTableRow.inPlace = Tryz.pinned.checked.prog.inPlace 3 := by kernel_rfl
theorem hop : Rows.fnPrintEmptyFileTableRow.unfollowed = Tryz.pinned.checked.prog.unfollowed 3 := by kernel_rfl
theorem hrc : Rows.fnPrintEmptyFileTableRow.recurses = Tryz.pinned.checked.prog.recurses 3 := by kernel_rfl
theorem hvs : Rows.fnPrintEmptyFileTableRow.named = Tryz.pinned.checked.prog.varsNamed 3 := by kernel_rfl
theorem hmp : Rows.fnPrintEmptyFileTableRow.maps = (Tryz.f3.params.toList ++ (OpenSpec.ofChange Rows.fnPrintEmptyFileTableSpec).bare.plain.varTypes Tryz.pinned.checked.prog).any (Tryz.pinned.checked.prog.mapsRec ·) := by kernel_rfl
theorem hif : Rows.fnPrintEmptyFileTableRow.ifaces = (Tryz.f3.params.toList ++ (OpenSpec.ofChange Rows.fnPrintEmptyFileTableSpec).bare.plain.varTypes Tryz.pinned.checked.prog).any (Tryz.pinned.checked.prog.ifacesRec ·) := by kernel_rfl
theorem hmo : Rows.fnPrintEmptyFileTableRow.mapsOut = Tryz.pinned.checked.prog.mapsAmong Tryz.f3.resultTypes.toList := by kernel_rfl
theorem hlo : Rows.fnPrintEmptyFileTableRow.loops = (Tryz.f3.params.toList ++ (OpenSpec.ofChange Rows.fnPrintEmptyFileTableSpec).bare.plain.varTypes Tryz.pinned.checked.prog).any (Tryz.pinned.checked.prog.loopsFrom ·) := by kernel_rfl
theorem hwk : Rows.fnPrintEmptyFileTableRow.wideKeys = (Tryz.f3.params.toList ++ (OpenSpec.ofChange Rows.fnPrintEmptyFileTableSpec).bare.plain.varTypes Tryz.pinned.checked.prog ++ Tryz.f3.resultTypes.toList).any (Tryz.pinned.checked.prog.wideKeysFrom ·) := by kernel_rfl
theorem hvars : ((OpenSpec.ofChange Rows.fnPrintEmptyFileTableSpec).vars.all fun n => Tryz.pinned.checked.prog.varReadable n) = true := by kernel_rfl
theorem hmain : Tryz.pinned.checked.prog.mainIs = some (Rows.fnPrintEmptyFileTableCard.stood.harness.1, Rows.fnPrintEmptyFileTableCard.stood.harness.2.toList) := by kernel_rfl
theorem hfun : (Tryz.f3.params.toList.all fun t => !Tryz.pinned.checked.prog.wantsStandIn t) = true := by kernel_rfl
theorem hgoes : false = Rows.fnPrintEmptyFileTableRow.goesBy Tryz.pinned.checked.prog := by kernel_rfl
theorem m4 : (Tryz.f3.resultTypes.toList.all fun t => Tryz.pinned.checked.prog.readableRec t && decide (t < Tryz.pinned.checked.prog.types.size)) = true := by kernel_rfl
theorem m6 : Rows.fnPrintEmptyFileTableRow.ifacesOut = Tryz.f3.resultTypes.toList.any (Tryz.pinned.checked.prog.ifacesRec ·) := by kernel_rfl
theorem m7 : Rows.fnPrintEmptyFileTableRow.loopsOut = Tryz.f3.resultTypes.toList.any (Tryz.pinned.checked.prog.loopsFrom ·) := by kernel_rfl
theorem m8 : Rows.fnPrintEmptyFileTableRow.kinds = (if Rows.fnPrintEmptyFileTableRow.domain.isEmpty then [] else Tryz.f3.params.toList.map fun t => match Tryz.pinned.checked.prog.underlying t with | some (.int k) => some k | _ => none) := by kernel_rfl
theorem m9 : Rows.fnPrintEmptyFileTableRow.pinned = Rows.fnPrintEmptyFileTableRow.pinnedBy := by kernel_rfl
theorem m10 : Rows.fnPrintEmptyFileTableRow.plainKeys = Tryz.pinned.checked.prog.plainKeys := by kernel_rfl
theorem m11 : Rows.fnPrintEmptyFileTableRow.lifted = Tryz.pinned.checked.prog.liftsFinal := by kernel_rfl
theorem m12 : Tryz.pinned.checked.prog.make = some Rows.fnPrintEmptyFileTableRow.make := by kernel_rfl
theorem hvl1 : Rows.fnPrintEmptyFileTableRow.veiled = (Tryz.f3.params.toList ++ (OpenSpec.ofChange Rows.fnPrintEmptyFileTableSpec).bare.plain.varTypes Tryz.pinned.checked.prog ++ Tryz.f3.resultTypes.toList).any (Tryz.pinned.checked.prog.veiledRec ·) := by kernel_rfl
theorem hvl2 : Rows.fnPrintEmptyFileTableRow.veiledFits Tryz.pinned.checked.prog Tryz.f3.params.toList (Tryz.f3.params.toList ++ (OpenSpec.ofChange Rows.fnPrintEmptyFileTableSpec).bare.plain.varTypes Tryz.pinned.checked.prog ++ Tryz.f3.resultTypes.toList) = true := by kernel_rfl
end PT
end Go.Proofs.YtdfgcopelfmcmaaGreatFmt
