/-
  n010_157.FnFlushCommentsSecondCallSilent: the row's closed facts, each by itself.
-/
import Derived.Test.YtmdkpihlhdjjaaaGreatFmtKLaidX
import Derived.Test.YtmdkpihlhdjjaaaGreatFmtCards
namespace Go.Proofs.YtmdkpihlhdjjaaaGreatFmt
open Go.Extern.Stop Go.Stop Go.Extern
namespace FT
theorem hw : Rows.fnFlushCommentsSecondCallSilentRow.wfByText (OpenSpec.ofChange Rows.fnFlushCommentsSecondCallSilentSpec) = true := by kernel_rfl
theorem htie : namedTie Tryz.pinned.checked.prog Rows.fnFlushCommentsSecondCallSilentRow.namedList (OpenSpec.ofChange Rows.fnFlushCommentsSecondCallSilentSpec).vars = true := by kernel_rfl
theorem hfn : Tryz.pinned.checked.prog.funcNamed Rows.fnFlushCommentsSecondCallSilentRow.func = some 4 := by kernel_rfl
theorem hr : (Tryz.f4.params.toList.all fun t => Tryz.pinned.checked.prog.readableRec t) = true := by kernel_rfl
theorem hinst : Tryz.f4.isInstance Tryz.pinned.checked.prog Rows.fnFlushCommentsSecondCallSilentRow.origin Rows.fnFlushCommentsSecondCallSilentRow.targs := of_decide_eq_true (by kernel_rfl)
theorem hwrap : Tryz.f4.isWrapper Tryz.pinned.checked.prog Rows.fnFlushCommentsSecondCallSilentRow.wrapper Rows.fnFlushCommentsSecondCallSilentRow.mainSum := of_decide_eq_true (by kernel_rfl)
theorem hstops : Rows.fnFlushCommentsSecondCallSilentRow.stops = Tryz.pinned.checked.prog.stops := stopsK.symm
theorem hin : Rows.fnFlushCommentsSecondCallSilentRow.inPlace = Tryz.pinned.checked.prog.inPlace 4 := by kernel_rfl
theorem hop : Rows.fnFlushCommentsSecondCallSilentRow.unfollowed = Tryz.pinned.checked.prog.unfollowed 4 := by kernel_rfl
theorem hrc : Rows.fnFlushCommentsSecondCallSilentRow.recurses = Tryz.pinned.checked.prog.recurses 4 := by kernel_rfl
theorem hvs : Rows.fnFlushCommentsSecondCallSilentRow.named = Tryz.pinned.checked.prog.varsNamed 4 := by kernel_rfl
theorem hmp : Rows.fnFlushCommentsSecondCallSilentRow.maps = (Tryz.f4.params.toList ++ (OpenSpec.ofChange Rows.fnFlushCommentsSecondCallSilentSpec).bare.plain.varTypes Tryz.pinned.checked.prog).any (Tryz.pinned.checked.prog.mapsRec ·) := by kernel_rfl
theorem hif : Rows.fnFlushCommentsSecondCallSilentRow.ifaces = (Tryz.f4.params.toList ++ (OpenSpec.ofChange Rows.fnFlushCommentsSecondCallSilentSpec).bare.plain.varTypes Tryz.pinned.checked.prog).any (Tryz.pinned.checked.prog.ifacesRec ·) := by kernel_rfl
theorem hmo : Rows.fnFlushCommentsSecondCallSilentRow.mapsOut = Tryz.pinned.checked.prog.mapsAmong Tryz.f4.resultTypes.toList := by kernel_rfl
theorem hlo : Rows.fnFlushCommentsSecondCallSilentRow.loops = (Tryz.f4.params.toList ++ (OpenSpec.ofChange Rows.fnFlushCommentsSecondCallSilentSpec).bare.plain.varTypes Tryz.pinned.checked.prog).any (Tryz.pinned.checked.prog.loopsFrom ·) := by kernel_rfl
theorem hwk : Rows.fnFlushCommentsSecondCallSilentRow.wideKeys = (Tryz.f4.params.toList ++ (OpenSpec.ofChange Rows.fnFlushCommentsSecondCallSilentSpec).bare.plain.varTypes Tryz.pinned.checked.prog ++ Tryz.f4.resultTypes.toList).any (Tryz.pinned.checked.prog.wideKeysFrom ·) := by kernel_rfl
theorem hvars : ((OpenSpec.ofChange Rows.fnFlushCommentsSecondCallSilentSpec).vars.all fun n => Tryz.pinned.checked.prog.varReadable n) = true := by kernel_rfl
theorem hmain : Tryz.pinned.checked.prog.mainIs = some (Rows.fnFlushCommentsSecondCallSilentCard.stood.harness.1, Rows.fnFlushCommentsSecondCallSilentCard.stood.harness.2.toList) := by kernel_rfl
theorem hfun : (Tryz.f4.params.toList.all fun t => !Tryz.pinned.checked.prog.wantsStandIn t) = true := by kernel_rfl
theorem hgoes : false = Rows.fnFlushCommentsSecondCallSilentRow.goesBy Tryz.pinned.checked.prog := by kernel_rfl
theorem m4 : (Tryz.f4.resultTypes.toList.all fun t => Tryz.pinned.checked.prog.readableRec t && decide (t < Tryz.pinned.checked.prog.types.size)) = true := by kernel_rfl
theorem m6 : Rows.fnFlushCommentsSecondCallSilentRow.ifacesOut = Tryz.f4.resultTypes.toList.any (Tryz.pinned.checked.prog.ifacesRec ·) := by kernel_rfl
theorem m7 : Rows.fnFlushCommentsSecondCallSilentRow.loopsOut = Tryz.f4.resultTypes.toList.any (Tryz.pinned.checked.prog.loopsFrom ·) := by kernel_rfl
theorem m8 : Rows.fnFlushCommentsSecondCallSilentRow.kinds = (if Rows.fnFlushCommentsSecondCallSilentRow.domain.isEmpty then [] else Tryz.f4.params.toList.map fun t => match Tryz.pinned.checked.prog.underlying t with | some (.int k) => some k | _ => none) := by kernel_rfl
theorem m9 : Rows.fnFlushCommentsSecondCallSilentRow.pinned = Rows.fnFlushCommentsSecondCallSilentRow.pinnedBy := by kernel_rfl
theorem m10 : Rows.fnFlushCommentsSecondCallSilentRow.plainKeys = Tryz.pinned.checked.prog.plainKeys := by kernel_rfl
theorem m11 : Rows.fnFlushCommentsSecondCallSilentRow.lifted = Tryz.pinned.checked.prog.liftsFinal := by kernel_rfl
theorem m12 : Tryz.pinned.checked.prog.make = some Rows.fnFlushCommentsSecondCallSilentRow.make := by kernel_rfl
theorem hvl1 : Rows.fnFlushCommentsSecondCallSilentRow.veiled = (Tryz.f4.params.toList ++ (OpenSpec.ofChange Rows.fnFlushCommentsSecondCallSilentSpec).bare.plain.varTypes Tryz.pinned.checked.prog ++ Tryz.f4.resultTypes.toList).any (Tryz.pinned.checked.prog.veiledRec ·) := by kernel_rfl
theorem hvl2 : Rows.fnFlushCommentsSecondCallSilentRow.veiledFits Tryz.pinned.checked.prog Tryz.f4.params.toList (Tryz.f4.params.toList ++ (OpenSpec.ofChange Rows.fnFlushCommentsSecondCallSilentSpec).bare.plain.varTypes Tryz.pinned.checked.prog ++ Tryz.f4.resultTypes.toList) = true := by kernel_rfl
end FT
end Go.Proofs.YtmdkpihlhdjjaaaGreatFmt
