/-
  n010_39.FnPrinterReuseStateless: the row's closed facts, each by itself.
-/
import Derived.Test.YtlblpdbldnnllaaGreatFmtCard
import Derived.Test.YtlblpdbldnnllaaGreatFmtCards
namespace Go.Proofs.YtlblpdbldnnllaaGreatFmt
open Go.Extern.Stop Go.Stop Go.Extern
namespace QR
theorem hw : Rows.fnPrinterReuseStatelessRow.wfByText (OpenSpec.ofChange Rows.fnPrinterReuseStatelessSpec) = true := by kernel_rfl
theorem htie : namedTie Tryz.pinned.checked.prog Rows.fnPrinterReuseStatelessRow.namedList (OpenSpec.ofChange Rows.fnPrinterReuseStatelessSpec).vars = true := by kernel_rfl
theorem hfn : Tryz.pinned.checked.prog.funcNamed Rows.fnPrinterReuseStatelessRow.func = some 7 := by kernel_rfl
theorem hr : (Tryz.f7.params.toList.all fun t => Tryz.pinned.checked.prog.readableRec t) = true := by kernel_rfl
theorem hinst : Tryz.f7.isInstance Tryz.pinned.checked.prog Rows.fnPrinterReuseStatelessRow.origin Rows.fnPrinterReuseStatelessRow.targs := of_decide_eq_true (by kernel_rfl)
theorem hwrap : Tryz.f7.isWrapper Tryz.pinned.checked.prog Rows.fnPrinterReuseStatelessRow.wrapper Rows.fnPrinterReuseStatelessRow.mainSum := of_decide_eq_true (by kernel_rfl)
theorem hstops : Rows.fnPrinterReuseStatelessRow.stops = Tryz.pinned.checked.prog.stops := stopsK.symm
theorem hin : Rows.fnPrinterReuseStatelessRow.inPlace = Tryz.pinned.checked.prog.inPlace 7 := by kernel_rfl
theorem hop : Rows.fnPrinterReuseStatelessRow.unfollowed = Tryz.pinned.checked.prog.unfollowed 7 := by kernel_rfl
theorem hrc : Rows.fnPrinterReuseStatelessRow.recurses = Tryz.pinned.checked.prog.recurses 7 := by kernel_rfl
theorem hvs : Rows.fnPrinterReuseStatelessRow.named = Tryz.pinned.checked.prog.varsNamed 7 := by kernel_rfl
theorem hmp : Rows.fnPrinterReuseStatelessRow.maps = (Tryz.f7.params.toList ++ (OpenSpec.ofChange Rows.fnPrinterReuseStatelessSpec).bare.plain.varTypes Tryz.pinned.checked.prog).any (Tryz.pinned.checked.prog.mapsRec ·) := by kernel_rfl
theorem hif : Rows.fnPrinterReuseStatelessRow.ifaces = (Tryz.f7.params.toList ++ (OpenSpec.ofChange Rows.fnPrinterReuseStatelessSpec).bare.plain.varTypes Tryz.pinned.checked.prog).any (Tryz.pinned.checked.prog.ifacesRec ·) := by kernel_rfl
theorem hmo : Rows.fnPrinterReuseStatelessRow.mapsOut = Tryz.pinned.checked.prog.mapsAmong Tryz.f7.resultTypes.toList := by kernel_rfl
theorem hlo : Rows.fnPrinterReuseStatelessRow.loops = (Tryz.f7.params.toList ++ (OpenSpec.ofChange Rows.fnPrinterReuseStatelessSpec).bare.plain.varTypes Tryz.pinned.checked.prog).any (Tryz.pinned.checked.prog.loopsFrom ·) := by kernel_rfl
theorem hwk : Rows.fnPrinterReuseStatelessRow.wideKeys = (Tryz.f7.params.toList ++ (OpenSpec.ofChange Rows.fnPrinterReuseStatelessSpec).bare.plain.varTypes Tryz.pinned.checked.prog ++ Tryz.f7.resultTypes.toList).any (Tryz.pinned.checked.prog.wideKeysFrom ·) := by kernel_rfl
theorem hvars : ((OpenSpec.ofChange Rows.fnPrinterReuseStatelessSpec).vars.all fun n => Tryz.pinned.checked.prog.varReadable n) = true := by kernel_rfl
theorem hmain : Tryz.pinned.checked.prog.mainIs = some (Rows.fnPrinterReuseStatelessCard.stood.harness.1, Rows.fnPrinterReuseStatelessCard.stood.harness.2.toList) := by kernel_rfl
theorem hfun : (Tryz.f7.params.toList.all fun t => !Tryz.pinned.checked.prog.wantsStandIn t) = true := by kernel_rfl
theorem hgoes : false = Rows.fnPrinterReuseStatelessRow.goesBy Tryz.pinned.checked.prog := by kernel_rfl
theorem m4 : (Tryz.f7.resultTypes.toList.all fun t => Tryz.pinned.checked.prog.readableRec t && decide (t < Tryz.pinned.checked.prog.types.size)) = true := by kernel_rfl
theorem m6 : Rows.fnPrinterReuseStatelessRow.ifacesOut = Tryz.f7.resultTypes.toList.any (Tryz.pinned.checked.prog.ifacesRec ·) := by kernel_rfl
theorem m7 : Rows.fnPrinterReuseStatelessRow.loopsOut = Tryz.f7.resultTypes.toList.any (Tryz.pinned.checked.prog.loopsFrom ·) := by kernel_rfl
theorem m8 : Rows.fnPrinterReuseStatelessRow.kinds = (if Rows.fnPrinterReuseStatelessRow.domain.isEmpty then [] else Tryz.f7.params.toList.map fun t => match Tryz.pinned.checked.prog.underlying t with | some (.int k) => some k | _ => none) := by kernel_rfl
theorem m9 : Rows.fnPrinterReuseStatelessRow.pinned = Rows.fnPrinterReuseStatelessRow.pinnedBy := by kernel_rfl
theorem m10 : Rows.fnPrinterReuseStatelessRow.plainKeys = Tryz.pinned.checked.prog.plainKeys := by kernel_rfl
theorem m11 : Rows.fnPrinterReuseStatelessRow.lifted = Tryz.pinned.checked.prog.liftsFinal := by kernel_rfl
theorem m12 : Tryz.pinned.checked.prog.make = some Rows.fnPrinterReuseStatelessRow.make := by kernel_rfl
theorem hvl1 : Rows.fnPrinterReuseStatelessRow.veiled = (Tryz.f7.params.toList ++ (OpenSpec.ofChange Rows.fnPrinterReuseStatelessSpec).bare.plain.varTypes Tryz.pinned.checked.prog ++ Tryz.f7.resultTypes.toList).any (Tryz.pinned.checked.prog.veiledRec ·) := by kernel_rfl
theorem hvl2 : Rows.fnPrinterReuseStatelessRow.veiledFits Tryz.pinned.checked.prog Tryz.f7.params.toList (Tryz.f7.params.toList ++ (OpenSpec.ofChange Rows.fnPrinterReuseStatelessSpec).bare.plain.varTypes Tryz.pinned.checked.prog ++ Tryz.f7.resultTypes.toList) = true := by kernel_rfl
end QR
end Go.Proofs.YtlblpdbldnnllaaGreatFmt
