/-
  n010_157.FnFlushCommentsLayout: the row's closed facts, each by itself.
-/
import Derived.Test.YtmdkpihlhdjjaaaGreatFmtKLaidX
import Derived.Test.YtmdkpihlhdjjaaaGreatFmtCards
namespace Go.Proofs.YtmdkpihlhdjjaaaGreatFmt
open Go.Extern.Stop Go.Stop Go.Extern
namespace FL
theorem hw : Rows.fnFlushCommentsLayoutRow.wfByText (OpenSpec.ofChange Rows.fnFlushCommentsLayoutSpec) = true := by kernel_rfl
theorem htie : namedTie Tryz.pinned.checked.prog Rows.fnFlushCommentsLayoutRow.namedList (OpenSpec.ofChange Rows.fnFlushCommentsLayoutSpec).vars = true := by kernel_rfl
theorem hfn : Tryz.pinned.checked.prog.funcNamed Rows.fnFlushCommentsLayoutRow.func = some 5 := by kernel_rfl
theorem hr : (Tryz.f5.params.toList.all fun t => Tryz.pinned.checked.prog.readableRec t) = true := by kernel_rfl
theorem hinst : Tryz.f5.isInstance Tryz.pinned.checked.prog Rows.fnFlushCommentsLayoutRow.origin Rows.fnFlushCommentsLayoutRow.targs := of_decide_eq_true (by kernel_rfl)
theorem hwrap : Tryz.f5.isWrapper Tryz.pinned.checked.prog Rows.fnFlushCommentsLayoutRow.wrapper Rows.fnFlushCommentsLayoutRow.mainSum := of_decide_eq_true (by kernel_rfl)
theorem hstops : Rows.fnFlushCommentsLayoutRow.stops = Tryz.pinned.checked.prog.stops := stopsK.symm
theorem hin : Rows.fnFlushCommentsLayoutRow.inPlace = Tryz.pinned.checked.prog.inPlace 5 := by kernel_rfl
theorem hop : Rows.fnFlushCommentsLayoutRow.unfollowed = Tryz.pinned.checked.prog.unfollowed 5 := by kernel_rfl
theorem hrc : Rows.fnFlushCommentsLayoutRow.recurses = Tryz.pinned.checked.prog.recurses 5 := by kernel_rfl
theorem hvs : Rows.fnFlushCommentsLayoutRow.named = Tryz.pinned.checked.prog.varsNamed 5 := by kernel_rfl
theorem hmp : Rows.fnFlushCommentsLayoutRow.maps = (Tryz.f5.params.toList ++ (OpenSpec.ofChange Rows.fnFlushCommentsLayoutSpec).bare.plain.varTypes Tryz.pinned.checked.prog).any (Tryz.pinned.checked.prog.mapsRec ·) := by kernel_rfl
theorem hif : Rows.fnFlushCommentsLayoutRow.ifaces = (Tryz.f5.params.toList ++ (OpenSpec.ofChange Rows.fnFlushCommentsLayoutSpec).bare.plain.varTypes Tryz.pinned.checked.prog).any (Tryz.pinned.checked.prog.ifacesRec ·) := by kernel_rfl
theorem hmo : Rows.fnFlushCommentsLayoutRow.mapsOut = Tryz.pinned.checked.prog.mapsAmong Tryz.f5.resultTypes.toList := by kernel_rfl
theorem hlo : Rows.fnFlushCommentsLayoutRow.loops = (Tryz.f5.params.toList ++ (OpenSpec.ofChange Rows.fnFlushCommentsLayoutSpec).bare.plain.varTypes Tryz.pinned.checked.prog).any (Tryz.pinned.checked.prog.loopsFrom ·) := by kernel_rfl
theorem hwk : Rows.fnFlushCommentsLayoutRow.wideKeys = (Tryz.f5.params.toList ++ (OpenSpec.ofChange Rows.fnFlushCommentsLayoutSpec).bare.plain.varTypes Tryz.pinned.checked.prog ++ Tryz.f5.resultTypes.toList).any (Tryz.pinned.checked.prog.wideKeysFrom ·) := by kernel_rfl
theorem hvars : ((OpenSpec.ofChange Rows.fnFlushCommentsLayoutSpec).vars.all fun n => Tryz.pinned.checked.prog.varReadable n) = true := by kernel_rfl
theorem hmain : Tryz.pinned.checked.prog.mainIs = some (Rows.fnFlushCommentsLayoutCard.stood.harness.1, Rows.fnFlushCommentsLayoutCard.stood.harness.2.toList) := by kernel_rfl
theorem hfun : (Tryz.f5.params.toList.all fun t => !Tryz.pinned.checked.prog.wantsStandIn t) = true := by kernel_rfl
theorem hgoes : false = Rows.fnFlushCommentsLayoutRow.goesBy Tryz.pinned.checked.prog := by kernel_rfl
theorem m4 : (Tryz.f5.resultTypes.toList.all fun t => Tryz.pinned.checked.prog.readableRec t && decide (t < Tryz.pinned.checked.prog.types.size)) = true := by kernel_rfl
theorem m6 : Rows.fnFlushCommentsLayoutRow.ifacesOut = Tryz.f5.resultTypes.toList.any (Tryz.pinned.checked.prog.ifacesRec ·) := by kernel_rfl
theorem m7 : Rows.fnFlushCommentsLayoutRow.loopsOut = Tryz.f5.resultTypes.toList.any (Tryz.pinned.checked.prog.loopsFrom ·) := by kernel_rfl
theorem m8 : Rows.fnFlushCommentsLayoutRow.kinds = (if Rows.fnFlushCommentsLayoutRow.domain.isEmpty then [] else Tryz.f5.params.toList.map fun t => match Tryz.pinned.checked.prog.underlying t with | some (.int k) => some k | _ => none) := by kernel_rfl
theorem m9 : Rows.fnFlushCommentsLayoutRow.pinned = Rows.fnFlushCommentsLayoutRow.pinnedBy := by kernel_rfl
theorem m10 : Rows.fnFlushCommentsLayoutRow.plainKeys = Tryz.pinned.checked.prog.plainKeys := by kernel_rfl
theorem m11 : Rows.fnFlushCommentsLayoutRow.lifted = Tryz.pinned.checked.prog.liftsFinal := by kernel_rfl
theorem m12 : Tryz.pinned.checked.prog.make = some Rows.fnFlushCommentsLayoutRow.make := by kernel_rfl
theorem hvl1 : Rows.fnFlushCommentsLayoutRow.veiled = (Tryz.f5.params.toList ++ (OpenSpec.ofChange Rows.fnFlushCommentsLayoutSpec).bare.plain.varTypes Tryz.pinned.checked.prog ++ Tryz.f5.resultTypes.toList).any (Tryz.pinned.checked.prog.veiledRec ·) := by kernel_rfl
theorem hvl2 : Rows.fnFlushCommentsLayoutRow.veiledFits Tryz.pinned.checked.prog Tryz.f5.params.toList (Tryz.f5.params.toList ++ (OpenSpec.ofChange Rows.fnFlushCommentsLayoutSpec).bare.plain.varTypes Tryz.pinned.checked.prog ++ Tryz.f5.resultTypes.toList) = true := by kernel_rfl
end FL
end Go.Proofs.YtmdkpihlhdjjaaaGreatFmt
