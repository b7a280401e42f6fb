/-
  n010_157.FnSemiRsrvSeparatorShape: the row's closed facts, each by itself.
-/
import Derived.Test.YtgcoopjkjeoflaaGreatFmtRCard
import Derived.Test.YtgcoopjkjeoflaaGreatFmtRCards
namespace Go.Proofs.YtgcoopjkjeoflaaGreatFmtR
open Go.Extern.Stop Go.Stop Go.Extern
namespace CS
theorem hw : Rows.fnSemiRsrvSeparatorShapeRow.wfByText (OpenSpec.ofChange Rows.fnSemiRsrvSeparatorShapeSpec) = true := by kernel_rfl
theorem htie : namedTie Tryz.pinned.checked.prog Rows.fnSemiRsrvSeparatorShapeRow.namedList (OpenSpec.ofChange Rows.fnSemiRsrvSeparatorShapeSpec).vars = true := by kernel_rfl
theorem hfn : Tryz.pinned.checked.prog.funcNamed Rows.fnSemiRsrvSeparatorShapeRow.func = some 4 := by kernel_rfl
theorem hr : (Tryz.f4.params.toList.all fun t => Tryz.pinned.checked.prog.readableRec t) = true := by kernel_rfl
theorem hinst : Tryz.f4.isInstance Tryz.pinned.checked.prog Rows.fnSemiRsrvSeparatorShapeRow.origin Rows.fnSemiRsrvSeparatorShapeRow.targs := of_decide_eq_true (by kernel_rfl)
theorem hwrap : Tryz.f4.isWrapper Tryz.pinned.checked.prog Rows.fnSemiRsrvSeparatorShapeRow.wrapper Rows.fnSemiRsrvSeparatorShapeRow.mainSum := of_decide_eq_true (by kernel_rfl)
theorem hstops : Rows.fnSemiRsrvSeparatorShapeRow.stops = Tryz.pinned.checked.prog.stops := stopsK.symm
theorem hin : Rows.fnSemiRsrvSeparatorShapeRow.inPlace = Tryz.pinned.checked.prog.inPlace 4 := by kernel_rfl
theorem hop : Rows.fnSemiRsrvSeparatorShapeRow.unfollowed = Tryz.pinned.checked.prog.unfollowed 4 := by kernel_rfl
theorem hrc : Rows.fnSemiRsrvSeparatorShapeRow.recurses = Tryz.pinned.checked.prog.recurses 4 := by kernel_rfl
theorem hvs : Rows.fnSemiRsrvSeparatorShapeRow.named = Tryz.pinned.checked.prog.varsNamed 4 := by kernel_rfl
theorem hmp : Rows.fnSemiRsrvSeparatorShapeRow.maps = (Tryz.f4.params.toList ++ (OpenSpec.ofChange Rows.fnSemiRsrvSeparatorShapeSpec).bare.plain.varTypes Tryz.pinned.checked.prog).any (Tryz.pinned.checked.prog.mapsRec ·) := by kernel_rfl
theorem hif : Rows.fnSemiRsrvSeparatorShapeRow.ifaces = (Tryz.f4.params.toList ++ (OpenSpec.ofChange Rows.fnSemiRsrvSeparatorShapeSpec).bare.plain.varTypes Tryz.pinned.checked.prog).any (Tryz.pinned.checked.prog.ifacesRec ·) := by kernel_rfl
theorem hmo : Rows.fnSemiRsrvSeparatorShapeRow.mapsOut = Tryz.pinned.checked.prog.mapsAmong Tryz.f4.resultTypes.toList := by kernel_rfl
theorem hlo : Rows.fnSemiRsrvSeparatorShapeRow.loops = (Tryz.f4.params.toList ++ (OpenSpec.ofChange Rows.fnSemiRsrvSeparatorShapeSpec).bare.plain.varTypes Tryz.pinned.checked.prog).any (Tryz.pinned.checked.prog.loopsFrom ·) := by kernel_rfl
theorem hwk : Rows.fnSemiRsrvSeparatorShapeRow.wideKeys = (Tryz.f4.params.toList ++ (OpenSpec.ofChange Rows.fnSemiRsrvSeparatorShapeSpec).bare.plain.varTypes Tryz.pinned.checked.prog ++ Tryz.f4.resultTypes.toList).any (Tryz.pinned.checked.prog.wideKeysFrom ·) := by kernel_rfl
theorem hvars : ((OpenSpec.ofChange Rows.fnSemiRsrvSeparatorShapeSpec).vars.all fun n => Tryz.pinned.checked.prog.varReadable n) = true := by kernel_rfl
theorem hmain : Tryz.pinned.checked.prog.mainIs = some (Rows.fnSemiRsrvSeparatorShapeCard.stood.harness.1, Rows.fnSemiRsrvSeparatorShapeCard.stood.harness.2.toList) := by kernel_rfl
theorem hfun : (Tryz.f4.params.toList.all fun t => !Tryz.pinned.checked.prog.wantsStandIn t) = true := by kernel_rfl
theorem hgoes : false = Rows.fnSemiRsrvSeparatorShapeRow.goesBy Tryz.pinned.checked.prog := by kernel_rfl
theorem m4 : (Tryz.f4.resultTypes.toList.all fun t => Tryz.pinned.checked.prog.readableRec t && decide (t < Tryz.pinned.checked.prog.types.size)) = true := by kernel_rfl
theorem m6 : Rows.fnSemiRsrvSeparatorShapeRow.ifacesOut = Tryz.f4.resultTypes.toList.any (Tryz.pinned.checked.prog.ifacesRec ·) := by kernel_rfl
theorem m7 : Rows.fnSemiRsrvSeparatorShapeRow.loopsOut = Tryz.f4.resultTypes.toList.any (Tryz.pinned.checked.prog.loopsFrom ·) := by kernel_rfl
theorem m8 : Rows.fnSemiRsrvSeparatorShapeRow.kinds = (if Rows.fnSemiRsrvSeparatorShapeRow.domain.isEmpty then [] else Tryz.f4.params.toList.map fun t => match Tryz.pinned.checked.prog.underlying t with | some (.int k) => some k | _ => none) := by kernel_rfl
theorem m9 : Rows.fnSemiRsrvSeparatorShapeRow.pinned = Rows.fnSemiRsrvSeparatorShapeRow.pinnedBy := by kernel_rfl
theorem m10 : Rows.fnSemiRsrvSeparatorShapeRow.plainKeys = Tryz.pinned.checked.prog.plainKeys := by kernel_rfl
theorem m11 : Rows.fnSemiRsrvSeparatorShapeRow.lifted = Tryz.pinned.checked.prog.liftsFinal := by kernel_rfl
theorem m12 : Tryz.pinned.checked.prog.make = some Rows.fnSemiRsrvSeparatorShapeRow.make := by kernel_rfl
theorem hvl1 : Rows.fnSemiRsrvSeparatorShapeRow.veiled = (Tryz.f4.params.toList ++ (OpenSpec.ofChange Rows.fnSemiRsrvSeparatorShapeSpec).bare.plain.varTypes Tryz.pinned.checked.prog ++ Tryz.f4.resultTypes.toList).any (Tryz.pinned.checked.prog.veiledRec ·) := by kernel_rfl
theorem hvl2 : Rows.fnSemiRsrvSeparatorShapeRow.veiledFits Tryz.pinned.checked.prog Tryz.f4.params.toList (Tryz.f4.params.toList ++ (OpenSpec.ofChange Rows.fnSemiRsrvSeparatorShapeSpec).bare.plain.varTypes Tryz.pinned.checked.prog ++ Tryz.f4.resultTypes.toList) = true := by kernel_rfl
end CS
end Go.Proofs.YtgcoopjkjeoflaaGreatFmtR
