/-
  n010_67.FnKeepPaddingScript: the row's closed facts, each by itself.
-/
import Derived.Test.YtdfgcopelfmcmaaGreatFmtCard
import Derived.Test.YtdfgcopelfmcmaaGreatFmtCards
namespace Go.Proofs.YtdfgcopelfmcmaaGreatFmt
open Go.Extern.Stop Go.Stop Go.Extern
namespace PP
theorem hw : Rows.fnKeepPaddingScriptRow.wfByText (OpenSpec.ofChange Rows.fnKeepPaddingScriptSpec) = true := by kernel_rfl
theorem htie : namedTie Tryz.pinned.checked.prog Rows.fnKeepPaddingScriptRow.namedList (OpenSpec.ofChange Rows.fnKeepPaddingScriptSpec).vars = true := by kernel_rfl
theorem hfn : Tryz.pinned.checked.prog.funcNamed Rows.fnKeepPaddingScriptRow.func = some 7 := by kernel_rfl
theorem hr : (Tryz.f7.params.toList.all fun t => Tryz.pinned.checked.prog.readableRec t) = true := by kernel_rfl
theorem hinst : Tryz.f7.isInstance Tryz.pinned.checked.prog Rows.fnKeepPaddingScriptRow.origin Rows.fnKeepPaddingScriptRow.targs := of_decide_eq_true (by kernel_rfl)
theorem hwrap : Tryz.f7.isWrapper Tryz.pinned.checked.prog Rows.fnKeepPaddingScriptRow.wrapper Rows.fnKeepPaddingScriptRow.mainSum := of_decide_eq_true (by kernel_rfl)
theorem hstops : Rows.fnKeepPaddingScriptRow.stops = Tryz.pinned.checked.prog.stops := stopsK.symm
theorem hin : Rows.fnKeepPaddingScriptRow.inPlace = Tryz.pinned.checked.prog.inPlace 7 := by kernel_rfl
theorem hop : Rows.fnKeepPaddingScriptRow.unfollowed = Tryz.pinned.checked.prog.unfollowed 7 := by kernel_rfl
theorem hrc : Rows.fnKeepPaddingScriptRow.recurses = Tryz.pinned.checked.prog.recurses 7 := by kernel_rfl
theorem hvs : Rows.fnKeepPaddingScriptRow.named = Tryz.pinned.checked.prog.varsNamed 7 := by kernel_rfl
theorem hmp : Rows.fnKeepPaddingScriptRow.maps = (Tryz.f7.params.toList ++ (OpenSpec.ofChange Rows.fnKeepPaddingScriptSpec).bare.plain.varTypes Tryz.pinned.checked.prog).any (Tryz.pinned.checked.prog.mapsRec ·) := by kernel_rfl
theorem hif : Rows.fnKeepPaddingScriptRow.ifaces = (Tryz.f7.params.toList ++ (OpenSpec.ofChange Rows.fnKeepPaddingScriptSpec).bare.plain.varTypes Tryz.pinned.checked.prog).any (Tryz.pinned.checked.prog.ifacesRec ·) := by kernel_rfl
theorem hmo : Rows.fnKeepPaddingScriptRow.mapsOut = Tryz.pinned.checked.prog.mapsAmong Tryz.f7.resultTypes.toList := by kernel_rfl
theorem hlo : Rows.fnKeepPaddingScriptRow.loops = (Tryz.f7.params.toList ++ (OpenSpec.ofChange Rows.fnKeepPaddingScriptSpec).bare.plain.varTypes Tryz.pinned.checked.prog).any (Tryz.pinned.checked.prog.loopsFrom ·) := by kernel_rfl
theorem hwk : Rows.fnKeepPaddingScriptRow.wideKeys = (Tryz.f7.params.toList ++ (OpenSpec.ofChange Rows.fnKeepPaddingScriptSpec).bare.plain.varTypes Tryz.pinned.checked.prog ++ Tryz.f7.resultTypes.toList).any (Tryz.pinned.checked.prog.wideKeysFrom ·) := by kernel_rfl
theorem hvars : ((OpenSpec.ofChange Rows.fnKeepPaddingScriptSpec).vars.all fun n => Tryz.pinned.checked.prog.varReadable n) = true := by kernel_rfl
theorem hmain : Tryz.pinned.checked.prog.mainIs = some (Rows.fnKeepPaddingScriptCard.stood.harness.1, Rows.fnKeepPaddingScriptCard.stood.harness.2.toList) := by kernel_rfl
theorem hfun : (Tryz.f7.params.toList.all fun t => !Tryz.pinned.checked.prog.wantsStandIn t) = true := by kernel_rfl
theorem hgoes : false = Rows.fnKeepPaddingScriptRow.goesBy Tryz.pinned.checked.prog := by kernel_rfl
theorem m4 : (Tryz.f7.resultTypes.toList.all fun t => Tryz.pinned.checked.prog.readableRec t && decide (t < Tryz.pinned.checked.prog.types.size)) = true := by kernel_rfl
theorem m6 : Rows.fnKeepPaddingScriptRow.ifacesOut = Tryz.f7.resultTypes.toList.any (Tryz.pinned.checked.prog.ifacesRec ·) := by kernel_rfl
theorem m7 : Rows.fnKeepPaddingScriptRow.loopsOut = Tryz.f7.resultTypes.toList.any (Tryz.pinned.checked.prog.loopsFrom ·) := by kernel_rfl
theorem m8 : Rows.fnKeepPaddingScriptRow.kinds = (if Rows.fnKeepPaddingScriptRow.domain.isEmpty then [] else Tryz.f7.params.toList.map fun t => match Tryz.pinned.checked.prog.underlying t with | some (.int k) => some k | _ => none) := by kernel_rfl
theorem m9 : Rows.fnKeepPaddingScriptRow.pinned = Rows.fnKeepPaddingScriptRow.pinnedBy := by kernel_rfl
theorem m10 : Rows.fnKeepPaddingScriptRow.plainKeys = Tryz.pinned.checked.prog.plainKeys := by kernel_rfl
theorem m11 : Rows.fnKeepPaddingScriptRow.lifted = Tryz.pinned.checked.prog.liftsFinal := by kernel_rfl
theorem m12 : Tryz.pinned.checked.prog.make = some Rows.fnKeepPaddingScriptRow.make := by kernel_rfl
theorem hvl1 : Rows.fnKeepPaddingScriptRow.veiled = (Tryz.f7.params.toList ++ (OpenSpec.ofChange Rows.fnKeepPaddingScriptSpec).bare.plain.varTypes Tryz.pinned.checked.prog ++ Tryz.f7.resultTypes.toList).any (Tryz.pinned.checked.prog.veiledRec ·) := by kernel_rfl
theorem hvl2 : Rows.fnKeepPaddingScriptRow.veiledFits Tryz.pinned.checked.prog Tryz.f7.params.toList (Tryz.f7.params.toList ++ (OpenSpec.ofChange Rows.fnKeepPaddingScriptSpec).bare.plain.varTypes Tryz.pinned.checked.prog ++ Tryz.f7.resultTypes.toList) = true := by kernel_rfl
end PP
end Go.Proofs.YtdfgcopelfmcmaaGreatFmt
