/-
  n010_67.FnFunctionNextLineScript: the row's closed facts, each by itself.
-/
import Derived.Test.YtdfgcopelfmcmaaGreatFmtCard
import Derived.Test.YtdfgcopelfmcmaaGreatFmtCards
namespace Go.Proofs.YtdfgcopelfmcmaaGreatFmt
open Go.Extern.Stop Go.Stop Go.Extern
namespace PF
theorem hw : Rows.fnFunctionNextLineScriptRow.wfByText (OpenSpec.ofChange Rows.fnFunctionNextLineScriptSpec) = true := by kernel_rfl
theorem htie : namedTie Tryz.pinned.checked.prog Rows.fnFunctionNextLineScriptRow.namedList (OpenSpec.ofChange Rows.fnFunctionNextLineScriptSpec).vars = true := by kernel_rfl
theorem hfn : Tryz.pinned.checked.prog.funcNamed Rows.fnFunctionNextLineScriptRow.func = some 4 := by kernel_rfl
theorem hr : (Tryz.f4.params.toList.all fun t => Tryz.pinned.checked.prog.readableRec t) = true := by kernel_rfl
theorem hinst : Tryz.f4.isInstance Tryz.pinned.checked.prog Rows.fnFunctionNextLineScriptRow.origin Rows.fnFunctionNextLineScriptRow.targs := of_decide_eq_true (by kernel_rfl)
theorem hwrap : Tryz.f4.isWrapper Tryz.pinned.checked.prog Rows.fnFunctionNextLineScriptRow.wrapper Rows.fnFunctionNextLineScriptRow.mainSum := of_decide_eq_true (by kernel_rfl)
theorem hstops : Rows.fnFunctionNextLineScriptRow.stops = Tryz.pinned.checked.prog.stops := stopsK.symm
theorem hin : Rows.fnFunctionNextLineScriptRow.inPlace = Tryz.pinned.checked.prog.inPlace 4 := by kernel_rfl
theorem hop : Rows.fnFunctionNextLineScriptRow.unfollowed = Tryz.pinned.checked.prog.unfollowed 4 := by kernel_rfl
theorem hrc : Rows.fnFunctionNextLineScriptRow.recurses = Tryz.pinned.checked.prog.recurses 4 := by kernel_rfl
theorem hvs : Rows.fnFunctionNextLineScriptRow.named = Tryz.pinned.checked.prog.varsNamed 4 := by kernel_rfl
theorem hmp : Rows.fnFunctionNextLineScriptRow.maps = (Tryz.f4.params.toList ++ (OpenSpec.ofChange Rows.fnFunctionNextLineScriptSpec).bare.plain.varTypes Tryz.pinned.checked.prog).any (Tryz.pinned.checked.prog.mapsRec ·) := by kernel_rfl
theorem hif : Rows.fnFunctionNextLineScriptRow.ifaces = (Tryz.f4.params.toList ++ (OpenSpec.ofChange Rows.fnFunctionNextLineScriptSpec).bare.plain.varTypes Tryz.pinned.checked.prog).any (Tryz.pinned.checked.prog.ifacesRec ·) := by kernel_rfl
theorem hmo : Rows.fnFunctionNextLineScriptRow.mapsOut = Tryz.pinned.checked.prog.mapsAmong Tryz.f4.resultTypes.toList := by kernel_rfl
theorem hlo : Rows.fnFunctionNextLineScriptRow.loops = (Tryz.f4.params.toList ++ (OpenSpec.ofChange Rows.fnFunctionNextLineScriptSpec).bare.plain.varTypes Tryz.pinned.checked.prog).any (Tryz.pinned.checked.prog.loopsFrom ·) := by kernel_rfl
theorem hwk : Rows.fnFunctionNextLineScriptRow.wideKeys = (Tryz.f4.params.toList ++ (OpenSpec.ofChange Rows.fnFunctionNextLineScriptSpec).bare.plain.varTypes Tryz.pinned.checked.prog ++ Tryz.f4.resultTypes.toList).any (Tryz.pinned.checked.prog.wideKeysFrom ·) := by kernel_rfl
theorem hvars : ((OpenSpec.ofChange Rows.fnFunctionNextLineScriptSpec).vars.all fun n => Tryz.pinned.checked.prog.varReadable n) = true := by kernel_rfl
theorem hmain : Tryz.pinned.checked.prog.mainIs = some (Rows.fnFunctionNextLineScriptCard.stood.harness.1, Rows.fnFunctionNextLineScriptCard.stood.harness.2.toList) := by kernel_rfl
theorem hfun : (Tryz.f4.params.toList.all fun t => !Tryz.pinned.checked.prog.wantsStandIn t) = true := by kernel_rfl
theorem hgoes : false = Rows.fnFunctionNextLineScriptRow.goesBy Tryz.pinned.checked.prog := by kernel_rfl
theorem m4 : (Tryz.f4.resultTypes.toList.all fun t => Tryz.pinned.checked.prog.readableRec t && decide (t < Tryz.pinned.checked.prog.types.size)) = true := by kernel_rfl
theorem m6 : Rows.fnFunctionNextLineScriptRow.ifacesOut = Tryz.f4.resultTypes.toList.any (Tryz.pinned.checked.prog.ifacesRec ·) := by kernel_rfl
theorem m7 : Rows.fnFunctionNextLineScriptRow.loopsOut = Tryz.f4.resultTypes.toList.any (Tryz.pinned.checked.prog.loopsFrom ·) := by kernel_rfl
theorem m8 : Rows.fnFunctionNextLineScriptRow.kinds = (if Rows.fnFunctionNextLineScriptRow.domain.isEmpty then [] else Tryz.f4.params.toList.map fun t => match Tryz.pinned.checked.prog.underlying t with | some (.int k) => some k | _ => none) := by kernel_rfl
theorem m9 : Rows.fnFunctionNextLineScriptRow.pinned = Rows.fnFunctionNextLineScriptRow.pinnedBy := by kernel_rfl
theorem m10 : Rows.fnFunctionNextLineScriptRow.plainKeys = Tryz.pinned.checked.prog.plainKeys := by kernel_rfl
theorem m11 : Rows.fnFunctionNextLineScriptRow.lifted = Tryz.pinned.checked.prog.liftsFinal := by kernel_rfl
theorem m12 : Tryz.pinned.checked.prog.make = some Rows.fnFunctionNextLineScriptRow.make := by kernel_rfl
theorem hvl1 : Rows.fnFunctionNextLineScriptRow.veiled = (Tryz.f4.params.toList ++ (OpenSpec.ofChange Rows.fnFunctionNextLineScriptSpec).bare.plain.varTypes Tryz.pinned.checked.prog ++ Tryz.f4.resultTypes.toList).any (Tryz.pinned.checked.prog.veiledRec ·) := by kernel_rfl
theorem hvl2 : Rows.fnFunctionNextLineScriptRow.veiledFits Tryz.pinned.checked.prog Tryz.f4.params.toList (Tryz.f4.params.toList ++ (OpenSpec.ofChange Rows.fnFunctionNextLineScriptSpec).bare.plain.varTypes Tryz.pinned.checked.prog ++ Tryz.f4.resultTypes.toList) = true := by kernel_rfl
end PF
end Go.Proofs.YtdfgcopelfmcmaaGreatFmt
