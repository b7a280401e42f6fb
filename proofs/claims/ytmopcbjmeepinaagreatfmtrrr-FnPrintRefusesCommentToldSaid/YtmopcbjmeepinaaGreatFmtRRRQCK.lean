/-
  n010_39.FnPrintRefusesComment: the row's closed facts, each by itself.
-/
import Derived.Test.YtmopcbjmeepinaaGreatFmtRRRCard
import Derived.Test.YtmopcbjmeepinaaGreatFmtRRRCards
namespace Go.Proofs.YtmopcbjmeepinaaGreatFmtRRR
open Go.Extern.Stop Go.Stop Go.Extern
namespace QC
theorem hw : Rows.fnPrintRefusesCommentRow.wfByText (OpenSpec.ofChange Rows.fnPrintRefusesCommentSpec) = true := by kernel_rfl
theorem htie : namedTie Tryz.pinned.checked.prog Rows.fnPrintRefusesCommentRow.namedList (OpenSpec.ofChange Rows.fnPrintRefusesCommentSpec).vars = true := by kernel_rfl
theorem hfn : Tryz.pinned.checked.prog.funcNamed Rows.fnPrintRefusesCommentRow.func = some 3 := by kernel_rfl
theorem hr : (Tryz.f3.params.toList.all fun t => Tryz.pinned.checked.prog.readableRec t) = true := by kernel_rfl
theorem hinst : Tryz.f3.isInstance Tryz.pinned.checked.prog Rows.fnPrintRefusesCommentRow.origin Rows.fnPrintRefusesCommentRow.targs := of_decide_eq_true (by kernel_rfl)
theorem hwrap : Tryz.f3.isWrapper Tryz.pinned.checked.prog Rows.fnPrintRefusesCommentRow.wrapper Rows.fnPrintRefusesCommentRow.mainSum := of_decide_eq_true (by kernel_rfl)
theorem hstops : Rows.fnPrintRefusesCommentRow.stops = Tryz.pinned.checked.prog.stops := stopsK.symm
theorem hin : Rows.fnPrintRefusesCommentRow.inPlace = Tryz.pinned.checked.prog.inPlace 3 := by kernel_rfl
theorem hop : Rows.fnPrintRefusesCommentRow.unfollowed = Tryz.pinned.checked.prog.unfollowed 3 := by kernel_rfl
theorem hrc : Rows.fnPrintRefusesCommentRow.recurses = Tryz.pinned.checked.prog.recurses 3 := by kernel_rfl
theorem hvs : Rows.fnPrintRefusesCommentRow.named = Tryz.pinned.checked.prog.varsNamed 3 := by kernel_rfl
theorem hmp : Rows.fnPrintRefusesCommentRow.maps = (Tryz.f3.params.toList ++ (OpenSpec.ofChange Rows.fnPrintRefusesCommentSpec).bare.plain.varTypes Tryz.pinned.checked.prog).any (Tryz.pinned.checked.prog.mapsRec ·) := by kernel_rfl
theorem hif : Rows.fnPrintRefusesCommentRow.ifaces = (Tryz.f3.params.toList ++ (OpenSpec.ofChange Rows.fnPrintRefusesCommentSpec).bare.plain.varTypes Tryz.pinned.checked.prog).any (Tryz.pinned.checked.prog.ifacesRec ·) := by kernel_rfl
theorem hmo : Rows.fnPrintRefusesCommentRow.mapsOut = Tryz.pinned.checked.prog.mapsAmong Tryz.f3.resultTypes.toList := by kernel_rfl
theorem hlo : Rows.fnPrintRefusesCommentRow.loops = (Tryz.f3.params.toList ++ (OpenSpec.ofChange Rows.fnPrintRefusesCommentSpec).bare.plain.varTypes Tryz.pinned.checked.prog).any (Tryz.pinned.checked.prog.loopsFrom ·) := by kernel_rfl
theorem hwk : Rows.fnPrintRefusesCommentRow.wideKeys = (Tryz.f3.params.toList ++ (OpenSpec.ofChange Rows.fnPrintRefusesCommentSpec).bare.plain.varTypes Tryz.pinned.checked.prog ++ Tryz.f3.resultTypes.toList).any (Tryz.pinned.checked.prog.wideKeysFrom ·) := by kernel_rfl
theorem hvars : ((OpenSpec.ofChange Rows.fnPrintRefusesCommentSpec).vars.all fun n => Tryz.pinned.checked.prog.varReadable n) = true := by kernel_rfl
theorem hmain : Tryz.pinned.checked.prog.mainIs = some (Rows.fnPrintRefusesCommentCard.stood.harness.1, Rows.fnPrintRefusesCommentCard.stood.harness.2.toList) := by kernel_rfl
theorem hfun : (Tryz.f3.params.toList.all fun t => !Tryz.pinned.checked.prog.wantsStandIn t) = true := by kernel_rfl
theorem hgoes : false = Rows.fnPrintRefusesCommentRow.goesBy Tryz.pinned.checked.prog := by kernel_rfl
theorem m4 : (Tryz.f3.resultTypes.toList.all fun t => Tryz.pinned.checked.prog.readableRec t && decide (t < Tryz.pinned.checked.prog.types.size)) = true := by kernel_rfl
theorem m6 : Rows.fnPrintRefusesCommentRow.ifacesOut = Tryz.f3.resultTypes.toList.any (Tryz.pinned.checked.prog.ifacesRec ·) := by kernel_rfl
theorem m7 : Rows.fnPrintRefusesCommentRow.loopsOut = Tryz.f3.resultTypes.toList.any (Tryz.pinned.checked.prog.loopsFrom ·) := by kernel_rfl
theorem m8 : Rows.fnPrintRefusesCommentRow.kinds = (if Rows.fnPrintRefusesCommentRow.domain.isEmpty then [] else Tryz.f3.params.toList.map fun t => match Tryz.pinned.checked.prog.underlying t with | some (.int k) => some k | _ => none) := by kernel_rfl
theorem m9 : Rows.fnPrintRefusesCommentRow.pinned = Rows.fnPrintRefusesCommentRow.pinnedBy := by kernel_rfl
theorem m10 : Rows.fnPrintRefusesCommentRow.plainKeys = Tryz.pinned.checked.prog.plainKeys := by kernel_rfl
theorem m11 : Rows.fnPrintRefusesCommentRow.lifted = Tryz.pinned.checked.prog.liftsFinal := by kernel_rfl
theorem m12 : Tryz.pinned.checked.prog.make = some Rows.fnPrintRefusesCommentRow.make := by kernel_rfl
theorem hvl1 : Rows.fnPrintRefusesCommentRow.veiled = (Tryz.f3.params.toList ++ (OpenSpec.ofChange Rows.fnPrintRefusesCommentSpec).bare.plain.varTypes Tryz.pinned.checked.prog ++ Tryz.f3.resultTypes.toList).any (Tryz.pinned.checked.prog.veiledRec ·) := by kernel_rfl
theorem hvl2 : Rows.fnPrintRefusesCommentRow.veiledFits Tryz.pinned.checked.prog Tryz.f3.params.toList (Tryz.f3.params.toList ++ (OpenSpec.ofChange Rows.fnPrintRefusesCommentSpec).bare.plain.varTypes Tryz.pinned.checked.prog ++ Tryz.f3.resultTypes.toList) = true := by kernel_rfl
end QC
end Go.Proofs.YtmopcbjmeepinaaGreatFmtRRR
