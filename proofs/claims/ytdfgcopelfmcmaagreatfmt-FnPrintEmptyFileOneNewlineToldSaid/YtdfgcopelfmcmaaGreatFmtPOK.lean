/-
  n010_39.FnPrintEmptyFileOneNewline: the row's closed facts, each by itself.
-/
import Derived.Test.YtdfgcopelfmcmaaGreatFmtCard
import Derived.Test.YtdfgcopelfmcmaaGreatFmtCards
namespace Go.Proofs.YtdfgcopelfmcmaaGreatFmt
open Go.Extern.Stop Go.Stop Go.Extern
namespace PO
theorem hw : Rows.fnPrintEmptyFileOneNewlineRow.wfByText (OpenSpec.ofChange Rows.fnPrintEmptyFileOneNewlineSpec) = true := by kernel_rfl
theorem htie : namedTie Tryz.pinned.checked.prog Rows.fnPrintEmptyFileOneNewlineRow.namedList (OpenSpec.ofChange Rows.fnPrintEmptyFileOneNewlineSpec).vars = true := by kernel_rfl
theorem hfn : Tryz.pinned.checked.prog.funcNamed Rows.fnPrintEmptyFileOneNewlineRow.func = some 8 := by kernel_rfl
theorem hr : (Tryz.f8.params.toList.all fun t => Tryz.pinned.checked.prog.readableRec t) = true := by kernel_rfl
theorem hinst : Tryz.f8.isInstance Tryz.pinned.checked.prog Rows.fnPrintEmptyFileOneNewlineRow.origin Rows.fnPrintEmptyFileOneNewlineRow.targs := of_decide_eq_true (by kernel_rfl)
theorem hwrap : Tryz.f8.isWrapper Tryz.pinned.checked.prog Rows.fnPrintEmptyFileOneNewlineRow.wrapper Rows.fnPrintEmptyFileOneNewlineRow.mainSum := of_decide_eq_true (by kernel_rfl)
theorem hstops : Rows.fnPrintEmptyFileOneNewlineRow.stops = Tryz.pinned.checked.prog.stops := stopsK.symm
theorem hin : Rows.fnPrintEmptyFileOneNewlineRow.inPlace = Tryz.pinned.checked.prog.inPlace 8 := by kernel_rfl
theorem hop : Rows.fnPrintEmptyFileOneNewlineRow.unfollowed = Tryz.pinned.checked.prog.unfollowed 8 := by kernel_rfl
theorem hrc : Rows.fnPrintEmptyFileOneNewlineRow.recurses = Tryz.pinned.checked.prog.recurses 8 := by kernel_rfl
theorem hvs : Rows.fnPrintEmptyFileOneNewlineRow.named = Tryz.pinned.checked.prog.varsNamed 8 := by kernel_rfl
theorem hmp : Rows.fnPrintEmptyFileOneNewlineRow.maps = (Tryz.f8.params.toList ++ (OpenSpec.ofChange Rows.fnPrintEmptyFileOneNewlineSpec).bare.plain.varTypes Tryz.pinned.checked.prog).any (Tryz.pinned.checked.prog.mapsRec ·) := by kernel_rfl
theorem hif : Rows.fnPrintEmptyFileOneNewlineRow.ifaces = (Tryz.f8.params.toList ++ (OpenSpec.ofChange Rows.fnPrintEmptyFileOneNewlineSpec).bare.plain.varTypes Tryz.pinned.checked.prog).any (Tryz.pinned.checked.prog.ifacesRec ·) := by kernel_rfl
theorem hmo : Rows.fnPrintEmptyFileOneNewlineRow.mapsOut = Tryz.pinned.checked.prog.mapsAmong Tryz.f8.resultTypes.toList := by kernel_rfl
theorem hlo : Rows.fnPrintEmptyFileOneNewlineRow.loops = (Tryz.f8.params.toList ++ (OpenSpec.ofChange Rows.fnPrintEmptyFileOneNewlineSpec).bare.plain.varTypes Tryz.pinned.checked.prog).any (Tryz.pinned.checked.prog.loopsFrom ·) := by kernel_rfl
theorem hwk : Rows.fnPrintEmptyFileOneNewlineRow.wideKeys = (Tryz.f8.params.toList ++ (OpenSpec.ofChange Rows.fnPrintEmptyFileOneNewlineSpec).bare.plain.varTypes Tryz.pinned.checked.prog ++ Tryz.f8.resultTypes.toList).any (Tryz.pinned.checked.prog.wideKeysFrom ·) := by kernel_rfl
theorem hvars : ((OpenSpec.ofChange Rows.fnPrintEmptyFileOneNewlineSpec).vars.all fun n => Tryz.pinned.checked.prog.varReadable n) = true := by kernel_rfl
theorem hmain : Tryz.pinned.checked.prog.mainIs = some (Rows.fnPrintEmptyFileOneNewlineCard.stood.harness.1, Rows.fnPrintEmptyFileOneNewlineCard.stood.harness.2.toList) := by kernel_rfl
theorem hfun : (Tryz.f8.params.toList.all fun t => !Tryz.pinned.checked.prog.wantsStandIn t) = true := by kernel_rfl
theorem hgoes : false = Rows.fnPrintEmptyFileOneNewlineRow.goesBy Tryz.pinned.checked.prog := by kernel_rfl
theorem m4 : (Tryz.f8.resultTypes.toList.all fun t => Tryz.pinned.checked.prog.readableRec t && decide (t < Tryz.pinned.checked.prog.types.size)) = true := by kernel_rfl
theorem m6 : Rows.fnPrintEmptyFileOneNewlineRow.ifacesOut = Tryz.f8.resultTypes.toList.any (Tryz.pinned.checked.prog.ifacesRec ·) := by kernel_rfl
theorem m7 : Rows.fnPrintEmptyFileOneNewlineRow.loopsOut = Tryz.f8.resultTypes.toList.any (Tryz.pinned.checked.prog.loopsFrom ·) := by kernel_rfl
theorem m8 : Rows.fnPrintEmptyFileOneNewlineRow.kinds = (if Rows.fnPrintEmptyFileOneNewlineRow.domain.isEmpty then [] else Tryz.f8.params.toList.map fun t => match Tryz.pinned.checked.prog.underlying t with | some (.int k) => some k | _ => none) := by kernel_rfl
theorem m9 : Rows.fnPrintEmptyFileOneNewlineRow.pinned = Rows.fnPrintEmptyFileOneNewlineRow.pinnedBy := by kernel_rfl
theorem m10 : Rows.fnPrintEmptyFileOneNewlineRow.plainKeys = Tryz.pinned.checked.prog.plainKeys := by kernel_rfl
theorem m11 : Rows.fnPrintEmptyFileOneNewlineRow.lifted = Tryz.pinned.checked.prog.liftsFinal := by kernel_rfl
theorem m12 : Tryz.pinned.checked.prog.make = some Rows.fnPrintEmptyFileOneNewlineRow.make := by kernel_rfl
theorem hvl1 : Rows.fnPrintEmptyFileOneNewlineRow.veiled = (Tryz.f8.params.toList ++ (OpenSpec.ofChange Rows.fnPrintEmptyFileOneNewlineSpec).bare.plain.varTypes Tryz.pinned.checked.prog ++ Tryz.f8.resultTypes.toList).any (Tryz.pinned.checked.prog.veiledRec ·) := by kernel_rfl
theorem hvl2 : Rows.fnPrintEmptyFileOneNewlineRow.veiledFits Tryz.pinned.checked.prog Tryz.f8.params.toList (Tryz.f8.params.toList ++ (OpenSpec.ofChange Rows.fnPrintEmptyFileOneNewlineSpec).bare.plain.varTypes Tryz.pinned.checked.prog ++ Tryz.f8.resultTypes.toList) = true := by kernel_rfl
end PO
end Go.Proofs.YtdfgcopelfmcmaaGreatFmt
