/-
  n010_39.FnPrintWordOptionsTable: the row's closed facts, each by itself.
-/
import Derived.Test.YtlblpdbldnnllaaGreatFmtCard
import Derived.Test.YtlblpdbldnnllaaGreatFmtCards
namespace Go.Proofs.YtlblpdbldnnllaaGreatFmt
open Go.Extern.Stop Go.Stop Go.Extern
namespace QW
theorem hw : Rows.fnPrintWordOptionsTableRow.wfByText (OpenSpec.ofChange Rows.fnPrintWordOptionsTableSpec) = true := by kernel_rfl
theorem htie : namedTie Tryz.pinned.checked.prog Rows.fnPrintWordOptionsTableRow.namedList (OpenSpec.ofChange Rows.fnPrintWordOptionsTableSpec).vars = true := by kernel_rfl
theorem hfn : Tryz.pinned.checked.prog.funcNamed Rows.fnPrintWordOptionsTableRow.func = some 5 := by kernel_rfl
theorem hr : (Tryz.f5.params.toList.all fun t => Tryz.pinned.checked.prog.readableRec t) = true := by kernel_rfl
theorem hinst : Tryz.f5.isInstance Tryz.pinned.checked.prog Rows.fnPrintWordOptionsTableRow.origin Rows.fnPrintWordOptionsTableRow.targs := of_decide_eq_true (by kernel_rfl)
theorem hwrap : Tryz.f5.isWrapper Tryz.pinned.checked.prog Rows.fnPrintWordOptionsTableRow.wrapper Rows.fnPrintWordOptionsTableRow.mainSum := of_decide_eq_true (by kernel_rfl)
theorem hstops : Rows.fnPrintWordOptionsTableRow.stops = Tryz.pinned.checked.prog.stops := stopsK.symm
theorem hin : Rows.fnPrintWordOptionsTableRow.inPlace = Tryz.pinned.checked.prog.inPlace 5 := by kernel_rfl
theorem hop : Rows.fnPrintWordOptionsTableRow.unfollowed = Tryz.pinned.checked.prog.unfollowed 5 := by kernel_rfl
theorem hrc : Rows.fnPrintWordOptionsTableRow.recurses = Tryz.pinned.checked.prog.recurses 5 := by kernel_rfl
theorem hvs : Rows.fnPrintWordOptionsTableRow.named = Tryz.pinned.checked.prog.varsNamed 5 := by kernel_rfl
theorem hmp : Rows.fnPrintWordOptionsTableRow.maps = (Tryz.f5.params.toList ++ (OpenSpec.ofChange Rows.fnPrintWordOptionsTableSpec).bare.plain.varTypes Tryz.pinned.checked.prog).any (Tryz.pinned.checked.prog.mapsRec ·) := by kernel_rfl
theorem hif : Rows.fnPrintWordOptionsTableRow.ifaces = (Tryz.f5.params.toList ++ (OpenSpec.ofChange Rows.fnPrintWordOptionsTableSpec).bare.plain.varTypes Tryz.pinned.checked.prog).any (Tryz.pinned.checked.prog.ifacesRec ·) := by kernel_rfl
theorem hmo : Rows.fnPrintWordOptionsTableRow.mapsOut = Tryz.pinned.checked.prog.mapsAmong Tryz.f5.resultTypes.toList := by kernel_rfl
theorem hlo : Rows.fnPrintWordOptionsTableRow.loops = (Tryz.f5.params.toList ++ (OpenSpec.ofChange Rows.fnPrintWordOptionsTableSpec).bare.plain.varTypes Tryz.pinned.checked.prog).any (Tryz.pinned.checked.prog.loopsFrom ·) := by kernel_rfl
theorem hwk : Rows.fnPrintWordOptionsTableRow.wideKeys = (Tryz.f5.params.toList ++ (OpenSpec.ofChange Rows.fnPrintWordOptionsTableSpec).bare.plain.varTypes Tryz.pinned.checked.prog ++ Tryz.f5.resultTypes.toList).any (Tryz.pinned.checked.prog.wideKeysFrom ·) := by kernel_rfl
theorem hvars : ((OpenSpec.ofChange Rows.fnPrintWordOptionsTableSpec).vars.all fun n => Tryz.pinned.checked.prog.varReadable n) = true := by kernel_rfl
theorem hmain : Tryz.pinned.checked.prog.mainIs = some (Rows.fnPrintWordOptionsTableCard.stood.harness.1, Rows.fnPrintWordOptionsTableCard.stood.harness.2.toList) := by kernel_rfl
theorem hfun : (Tryz.f5.params.toList.all fun t => !Tryz.pinned.checked.prog.wantsStandIn t) = true := by kernel_rfl
theorem hgoes : false = Rows.fnPrintWordOptionsTableRow.goesBy Tryz.pinned.checked.prog := by kernel_rfl
theorem m4 : (Tryz.f5.resultTypes.toList.all fun t => Tryz.pinned.checked.prog.readableRec t && decide (t < Tryz.pinned.checked.prog.types.size)) = true := by kernel_rfl
theorem m6 : Rows.fnPrintWordOptionsTableRow.ifacesOut = Tryz.f5.resultTypes.toList.any (Tryz.pinned.checked.prog.ifacesRec ·) := by kernel_rfl
theorem m7 : Rows.fnPrintWordOptionsTableRow.loopsOut = Tryz.f5.resultTypes.toList.any (Tryz.pinned.checked.prog.loopsFrom ·) := by kernel_rfl
theorem m8 : Rows.fnPrintWordOptionsTableRow.kinds = (if Rows.fnPrintWordOptionsTableRow.domain.isEmpty then [] else Tryz.f5.params.toList.map fun t => match Tryz.pinned.checked.prog.underlying t with | some (.int k) => some k | _ => none) := by kernel_rfl
theorem m9 : Rows.fnPrintWordOptionsTableRow.pinned = Rows.fnPrintWordOptionsTableRow.pinnedBy := by kernel_rfl
theorem m10 : Rows.fnPrintWordOptionsTableRow.plainKeys = Tryz.pinned.checked.prog.plainKeys := by kernel_rfl
theorem m11 : Rows.fnPrintWordOptionsTableRow.lifted = Tryz.pinned.checked.prog.liftsFinal := by kernel_rfl
theorem m12 : Tryz.pinned.checked.prog.make = some Rows.fnPrintWordOptionsTableRow.make := by kernel_rfl
theorem hvl1 : Rows.fnPrintWordOptionsTableRow.veiled = (Tryz.f5.params.toList ++ (OpenSpec.ofChange Rows.fnPrintWordOptionsTableSpec).bare.plain.varTypes Tryz.pinned.checked.prog ++ Tryz.f5.resultTypes.toList).any (Tryz.pinned.checked.prog.veiledRec ·) := by kernel_rfl
theorem hvl2 : Rows.fnPrintWordOptionsTableRow.veiledFits Tryz.pinned.checked.prog Tryz.f5.params.toList (Tryz.f5.params.toList ++ (OpenSpec.ofChange Rows.fnPrintWordOptionsTableSpec).bare.plain.varTypes Tryz.pinned.checked.prog ++ Tryz.f5.resultTypes.toList) = true := by kernel_rfl
end QW
end Go.Proofs.YtlblpdbldnnllaaGreatFmt
