/-
  n010_67.FnSingleLineScript: the row's closed facts, each by itself.
-/
import Derived.Test.YtdfgcopelfmcmaaGreatFmtCard
import Derived.Test.YtdfgcopelfmcmaaGreatFmtCards
namespace Go.Proofs.YtdfgcopelfmcmaaGreatFmt
open Go.Extern.Stop Go.Stop Go.Extern
namespace PL
theorem hw : Rows.fnSingleLineScriptRow.wfByText (OpenSpec.ofChange Rows.fnSingleLineScriptSpec) = true := by kernel_rfl
theorem htie : namedTie Tryz.pinned.checked.prog Rows.fnSingleLineScriptRow.namedList (OpenSpec.ofChange Rows.fnSingleLineScriptSpec).vars = true := by kernel_rfl
theorem hfn : Tryz.pinned.checked.prog.funcNamed Rows.fnSingleLineScriptRow.func = some 6 := by kernel_rfl
theorem hr : (Tryz.f6.params.toList.all fun t => Tryz.pinned.checked.prog.readableRec t) = true := by kernel_rfl
theorem hinst : Tryz.f6.isInstance Tryz.pinned.checked.prog Rows.fnSingleLineScriptRow.origin Rows.fnSingleLineScriptRow.targs := of_decide_eq_true (by kernel_rfl)
theorem hwrap : Tryz.f6.isWrapper Tryz.pinned.checked.prog Rows.fnSingleLineScriptRow.wrapper Rows.fnSingleLineScriptRow.mainSum := of_decide_eq_true (by kernel_rfl)
theorem hstops : Rows.fnSingleLineScriptRow.stops = Tryz.pinned.checked.prog.stops := stopsK.symm
theorem hin : Rows.fnSingleLineScriptRow.inPlace = Tryz.pinned.checked.prog.inPlace 6 := by kernel_rfl
theorem hop : Rows.fnSingleLineScriptRow.unfollowed = Tryz.pinned.checked.prog.unfollowed 6 := by kernel_rfl
theorem hrc : Rows.fnSingleLineScriptRow.recurses = Tryz.pinned.checked.prog.recurses 6 := by kernel_rfl
theorem hvs : Rows.fnSingleLineScriptRow.named = Tryz.pinned.checked.prog.varsNamed 6 := by kernel_rfl
theorem hmp : Rows.fnSingleLineScriptRow.maps = (Tryz.f6.params.toList ++ (OpenSpec.ofChange Rows.fnSingleLineScriptSpec).bare.plain.varTypes Tryz.pinned.checked.prog).any (Tryz.pinned.checked.prog.mapsRec ·) := by kernel_rfl
theorem hif : Rows.fnSingleLineScriptRow.ifaces = (Tryz.f6.params.toList ++ (OpenSpec.ofChange Rows.fnSingleLineScriptSpec).bare.plain.varTypes Tryz.pinned.checked.prog).any (Tryz.pinned.checked.prog.ifacesRec ·) := by kernel_rfl
theorem hmo : Rows.fnSingleLineScriptRow.mapsOut = Tryz.pinned.checked.prog.mapsAmong Tryz.f6.resultTypes.toList := by kernel_rfl
theorem hlo : Rows.fnSingleLineScriptRow.loops = (Tryz.f6.params.toList ++ (OpenSpec.ofChange Rows.fnSingleLineScriptSpec).bare.plain.varTypes Tryz.pinned.checked.prog).any (Tryz.pinned.checked.prog.loopsFrom ·) := by kernel_rfl
theorem hwk : Rows.fnSingleLineScriptRow.wideKeys = (Tryz.f6.params.toList ++ (OpenSpec.ofChange Rows.fnSingleLineScriptSpec).bare.plain.varTypes Tryz.pinned.checked.prog ++ Tryz.f6.resultTypes.toList).any (Tryz.pinned.checked.prog.wideKeysFrom ·) := by kernel_rfl
theorem hvars : ((OpenSpec.ofChange Rows.fnSingleLineScriptSpec).vars.all fun n => Tryz.pinned.checked.prog.varReadable n) = true := by kernel_rfl
theorem hmain : Tryz.pinned.checked.prog.mainIs = some (Rows.fnSingleLineScriptCard.stood.harness.1, Rows.fnSingleLineScriptCard.stood.harness.2.toList) := by kernel_rfl
theorem hfun : (Tryz.f6.params.toList.all fun t => !Tryz.pinned.checked.prog.wantsStandIn t) = true := by kernel_rfl
theorem hgoes : false = Rows.fnSingleLineScriptRow.goesBy Tryz.pinned.checked.prog := by kernel_rfl
theorem m4 : (Tryz.f6.resultTypes.toList.all fun t => Tryz.pinned.checked.prog.readableRec t && decide (t < Tryz.pinned.checked.prog.types.size)) = true := by kernel_rfl
theorem m6 : Rows.fnSingleLineScriptRow.ifacesOut = Tryz.f6.resultTypes.toList.any (Tryz.pinned.checked.prog.ifacesRec ·) := by kernel_rfl
theorem m7 : Rows.fnSingleLineScriptRow.loopsOut = Tryz.f6.resultTypes.toList.any (Tryz.pinned.checked.prog.loopsFrom ·) := by kernel_rfl
theorem m8 : Rows.fnSingleLineScriptRow.kinds = (if Rows.fnSingleLineScriptRow.domain.isEmpty then [] else Tryz.f6.params.toList.map fun t => match Tryz.pinned.checked.prog.underlying t with | some (.int k) => some k | _ => none) := by kernel_rfl
theorem m9 : Rows.fnSingleLineScriptRow.pinned = Rows.fnSingleLineScriptRow.pinnedBy := by kernel_rfl
theorem m10 : Rows.fnSingleLineScriptRow.plainKeys = Tryz.pinned.checked.prog.plainKeys := by kernel_rfl
theorem m11 : Rows.fnSingleLineScriptRow.lifted = Tryz.pinned.checked.prog.liftsFinal := by kernel_rfl
theorem m12 : Tryz.pinned.checked.prog.make = some Rows.fnSingleLineScriptRow.make := by kernel_rfl
theorem hvl1 : Rows.fnSingleLineScriptRow.veiled = (Tryz.f6.params.toList ++ (OpenSpec.ofChange Rows.fnSingleLineScriptSpec).bare.plain.varTypes Tryz.pinned.checked.prog ++ Tryz.f6.resultTypes.toList).any (Tryz.pinned.checked.prog.veiledRec ·) := by kernel_rfl
theorem hvl2 : Rows.fnSingleLineScriptRow.veiledFits Tryz.pinned.checked.prog Tryz.f6.params.toList (Tryz.f6.params.toList ++ (OpenSpec.ofChange Rows.fnSingleLineScriptSpec).bare.plain.varTypes Tryz.pinned.checked.prog ++ Tryz.f6.resultTypes.toList) = true := by kernel_rfl
end PL
end Go.Proofs.YtdfgcopelfmcmaaGreatFmt
