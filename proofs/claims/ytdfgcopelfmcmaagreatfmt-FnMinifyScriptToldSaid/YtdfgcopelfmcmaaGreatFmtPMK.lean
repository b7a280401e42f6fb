/-
  n010_67.FnMinifyScript: the row's closed facts, each by itself.
-/
import Derived.Test.YtdfgcopelfmcmaaGreatFmtCard
import Derived.Test.YtdfgcopelfmcmaaGreatFmtCards
namespace Go.Proofs.YtdfgcopelfmcmaaGreatFmt
open Go.Extern.Stop Go.Stop Go.Extern
namespace PM
theorem hw : Rows.fnMinifyScriptRow.wfByText (OpenSpec.ofChange Rows.fnMinifyScriptSpec) = true := by kernel_rfl
theorem htie : namedTie Tryz.pinned.checked.prog Rows.fnMinifyScriptRow.namedList (OpenSpec.ofChange Rows.fnMinifyScriptSpec).vars = true := by kernel_rfl
theorem hfn : Tryz.pinned.checked.prog.funcNamed Rows.fnMinifyScriptRow.func = some 5 := by kernel_rfl
theorem hr : (Tryz.f5.params.toList.all fun t => Tryz.pinned.checked.prog.readableRec t) = true := by kernel_rfl
theorem hinst : Tryz.f5.isInstance Tryz.pinned.checked.prog Rows.fnMinifyScriptRow.origin Rows.fnMinifyScriptRow.targs := of_decide_eq_true (by kernel_rfl)
theorem hwrap : Tryz.f5.isWrapper Tryz.pinned.checked.prog Rows.fnMinifyScriptRow.wrapper Rows.fnMinifyScriptRow.mainSum := of_decide_eq_true (by kernel_rfl)
theorem hstops : Rows.fnMinifyScriptRow.stops = Tryz.pinned.checked.prog.stops := stopsK.symm
theorem hin : Rows.fnMinifyScriptRow.inPlace = Tryz.pinned.checked.prog.inPlace 5 := by kernel_rfl
theorem hop : Rows.fnMinifyScriptRow.unfollowed = Tryz.pinned.checked.prog.unfollowed 5 := by kernel_rfl
theorem hrc : Rows.fnMinifyScriptRow.recurses = Tryz.pinned.checked.prog.recurses 5 := by kernel_rfl
theorem hvs : Rows.fnMinifyScriptRow.named = Tryz.pinned.checked.prog.varsNamed 5 := by kernel_rfl
theorem hmp : Rows.fnMinifyScriptRow.maps = (Tryz.f5.params.toList ++ (OpenSpec.ofChange Rows.fnMinifyScriptSpec).bare.plain.varTypes Tryz.pinned.checked.prog).any (Tryz.pinned.checked.prog.mapsRec ·) := by kernel_rfl
theorem hif : Rows.fnMinifyScriptRow.ifaces = (Tryz.f5.params.toList ++ (OpenSpec.ofChange Rows.fnMinifyScriptSpec).bare.plain.varTypes Tryz.pinned.checked.prog).any (Tryz.pinned.checked.prog.ifacesRec ·) := by kernel_rfl
theorem hmo : Rows.fnMinifyScriptRow.mapsOut = Tryz.pinned.checked.prog.mapsAmong Tryz.f5.resultTypes.toList := by kernel_rfl
theorem hlo : Rows.fnMinifyScriptRow.loops = (Tryz.f5.params.toList ++ (OpenSpec.ofChange Rows.fnMinifyScriptSpec).bare.plain.varTypes Tryz.pinned.checked.prog).any (Tryz.pinned.checked.prog.loopsFrom ·) := by kernel_rfl
theorem hwk : Rows.fnMinifyScriptRow.wideKeys = (Tryz.f5.params.toList ++ (OpenSpec.ofChange Rows.fnMinifyScriptSpec).bare.plain.varTypes Tryz.pinned.checked.prog ++ Tryz.f5.resultTypes.toList).any (Tryz.pinned.checked.prog.wideKeysFrom ·) := by kernel_rfl
theorem hvars : ((OpenSpec.ofChange Rows.fnMinifyScriptSpec).vars.all fun n => Tryz.pinned.checked.prog.varReadable n) = true := by kernel_rfl
theorem hmain : Tryz.pinned.checked.prog.mainIs = some (Rows.fnMinifyScriptCard.stood.harness.1, Rows.fnMinifyScriptCard.stood.harness.2.toList) := by kernel_rfl
theorem hfun : (Tryz.f5.params.toList.all fun t => !Tryz.pinned.checked.prog.wantsStandIn t) = true := by kernel_rfl
theorem hgoes : false = Rows.fnMinifyScriptRow.goesBy Tryz.pinned.checked.prog := by kernel_rfl
theorem m4 : (Tryz.f5.resultTypes.toList.all fun t => Tryz.pinned.checked.prog.readableRec t && decide (t < Tryz.pinned.checked.prog.types.size)) = true := by kernel_rfl
theorem m6 : Rows.fnMinifyScriptRow.ifacesOut = Tryz.f5.resultTypes.toList.any (Tryz.pinned.checked.prog.ifacesRec ·) := by kernel_rfl
theorem m7 : Rows.fnMinifyScriptRow.loopsOut = Tryz.f5.resultTypes.toList.any (Tryz.pinned.checked.prog.loopsFrom ·) := by kernel_rfl
theorem m8 : Rows.fnMinifyScriptRow.kinds = (if Rows.fnMinifyScriptRow.domain.isEmpty then [] else Tryz.f5.params.toList.map fun t => match Tryz.pinned.checked.prog.underlying t with | some (.int k) => some k | _ => none) := by kernel_rfl
theorem m9 : Rows.fnMinifyScriptRow.pinned = Rows.fnMinifyScriptRow.pinnedBy := by kernel_rfl
theorem m10 : Rows.fnMinifyScriptRow.plainKeys = Tryz.pinned.checked.prog.plainKeys := by kernel_rfl
theorem m11 : Rows.fnMinifyScriptRow.lifted = Tryz.pinned.checked.prog.liftsFinal := by kernel_rfl
theorem m12 : Tryz.pinned.checked.prog.make = some Rows.fnMinifyScriptRow.make := by kernel_rfl
theorem hvl1 : Rows.fnMinifyScriptRow.veiled = (Tryz.f5.params.toList ++ (OpenSpec.ofChange Rows.fnMinifyScriptSpec).bare.plain.varTypes Tryz.pinned.checked.prog ++ Tryz.f5.resultTypes.toList).any (Tryz.pinned.checked.prog.veiledRec ·) := by kernel_rfl
theorem hvl2 : Rows.fnMinifyScriptRow.veiledFits Tryz.pinned.checked.prog Tryz.f5.params.toList (Tryz.f5.params.toList ++ (OpenSpec.ofChange Rows.fnMinifyScriptSpec).bare.plain.varTypes Tryz.pinned.checked.prog ++ Tryz.f5.resultTypes.toList) = true := by kernel_rfl
end PM
end Go.Proofs.YtdfgcopelfmcmaaGreatFmt
