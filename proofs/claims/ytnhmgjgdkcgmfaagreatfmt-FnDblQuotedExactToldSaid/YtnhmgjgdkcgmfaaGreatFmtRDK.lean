/-
  n010_150.FnDblQuotedExact: the row's closed facts, each by itself.
-/
import Derived.Test.YtnhmgjgdkcgmfaaGreatFmtCard
import Derived.Test.YtnhmgjgdkcgmfaaGreatFmtCards
namespace Go.Proofs.YtnhmgjgdkcgmfaaGreatFmt
open Go.Extern.Stop Go.Stop Go.Extern
namespace RD
theorem hw : Rows.fnDblQuotedExactRow.wfByText (OpenSpec.ofChange Rows.fnDblQuotedExactSpec) = true := by kernel_rfl
theorem htie : namedTie Tryz.pinned.checked.prog Rows.fnDblQuotedExactRow.namedList (OpenSpec.ofChange Rows.fnDblQuotedExactSpec).vars = true := by kernel_rfl
theorem hfn : Tryz.pinned.checked.prog.funcNamed Rows.fnDblQuotedExactRow.func = some 5 := by kernel_rfl
theorem hr : (Tryz.f5.params.toList.all fun t => Tryz.pinned.checked.prog.readableRec t) = true := by kernel_rfl
theorem hinst : Tryz.f5.isInstance Tryz.pinned.checked.prog Rows.fnDblQuotedExactRow.origin Rows.fnDblQuotedExactRow.targs := of_decide_eq_true (by kernel_rfl)
theorem hwrap : Tryz.f5.isWrapper Tryz.pinned.checked.prog Rows.fnDblQuotedExactRow.wrapper Rows.fnDblQuotedExactRow.mainSum := of_decide_eq_true (by kernel_rfl)
theorem hstops : Rows.fnDblQuotedExactRow.stops = Tryz.pinned.checked.prog.stops := stopsK.symm
theorem hin : Rows.fnDblQuotedExactRow.inPlace = Tryz.pinned.checked.prog.inPlace 5 := by kernel_rfl
theorem hop : Rows.fnDblQuotedExactRow.unfollowed = Tryz.pinned.checked.prog.unfollowed 5 := by kernel_rfl
theorem hrc : Rows.fnDblQuotedExactRow.recurses = Tryz.pinned.checked.prog.recurses 5 := by kernel_rfl
theorem hvs : Rows.fnDblQuotedExactRow.named = Tryz.pinned.checked.prog.varsNamed 5 := by kernel_rfl
theorem hmp : Rows.fnDblQuotedExactRow.maps = (Tryz.f5.params.toList ++ (OpenSpec.ofChange Rows.fnDblQuotedExactSpec).bare.plain.varTypes Tryz.pinned.checked.prog).any (Tryz.pinned.checked.prog.mapsRec ·) := by kernel_rfl
theorem hif : Rows.fnDblQuotedExactRow.ifaces = (Tryz.f5.params.toList ++ (OpenSpec.ofChange Rows.fnDblQuotedExactSpec).bare.plain.varTypes Tryz.pinned.checked.prog).any (Tryz.pinned.checked.prog.ifacesRec ·) := by kernel_rfl
theorem hmo : Rows.fnDblQuotedExactRow.mapsOut = Tryz.pinned.checked.prog.mapsAmong Tryz.f5.resultTypes.toList := by kernel_rfl
theorem hlo : Rows.fnDblQuotedExactRow.loops = (Tryz.f5.params.toList ++ (OpenSpec.ofChange Rows.fnDblQuotedExactSpec).bare.plain.varTypes Tryz.pinned.checked.prog).any (Tryz.pinned.checked.prog.loopsFrom ·) := by kernel_rfl
theorem hwk : Rows.fnDblQuotedExactRow.wideKeys = (Tryz.f5.params.toList ++ (OpenSpec.ofChange Rows.fnDblQuotedExactSpec).bare.plain.varTypes Tryz.pinned.checked.prog ++ Tryz.f5.resultTypes.toList).any (Tryz.pinned.checked.prog.wideKeysFrom ·) := by kernel_rfl
theorem hvars : ((OpenSpec.ofChange Rows.fnDblQuotedExactSpec).vars.all fun n => Tryz.pinned.checked.prog.varReadable n) = true := by kernel_rfl
theorem hmain : Tryz.pinned.checked.prog.mainIs = some (Rows.fnDblQuotedExactCard.stood.harness.1, Rows.fnDblQuotedExactCard.stood.harness.2.toList) := by kernel_rfl
theorem hfun : (Tryz.f5.params.toList.all fun t => !Tryz.pinned.checked.prog.wantsStandIn t) = true := by kernel_rfl
theorem hgoes : false = Rows.fnDblQuotedExactRow.goesBy Tryz.pinned.checked.prog := by kernel_rfl
theorem m4 : (Tryz.f5.resultTypes.toList.all fun t => Tryz.pinned.checked.prog.readableRec t && decide (t < Tryz.pinned.checked.prog.types.size)) = true := by kernel_rfl
theorem m6 : Rows.fnDblQuotedExactRow.ifacesOut = Tryz.f5.resultTypes.toList.any (Tryz.pinned.checked.prog.ifacesRec ·) := by kernel_rfl
theorem m7 : Rows.fnDblQuotedExactRow.loopsOut = Tryz.f5.resultTypes.toList.any (Tryz.pinned.checked.prog.loopsFrom ·) := by kernel_rfl
theorem m8 : Rows.fnDblQuotedExactRow.kinds = (if Rows.fnDblQuotedExactRow.domain.isEmpty then [] else Tryz.f5.params.toList.map fun t => match Tryz.pinned.checked.prog.underlying t with | some (.int k) => some k | _ => none) := by kernel_rfl
theorem m9 : Rows.fnDblQuotedExactRow.pinned = Rows.fnDblQuotedExactRow.pinnedBy := by kernel_rfl
theorem m10 : Rows.fnDblQuotedExactRow.plainKeys = Tryz.pinned.checked.prog.plainKeys := by kernel_rfl
theorem m11 : Rows.fnDblQuotedExactRow.lifted = Tryz.pinned.checked.prog.liftsFinal := by kernel_rfl
theorem m12 : Tryz.pinned.checked.prog.make = some Rows.fnDblQuotedExactRow.make := by kernel_rfl
theorem hvl1 : Rows.fnDblQuotedExactRow.veiled = (Tryz.f5.params.toList ++ (OpenSpec.ofChange Rows.fnDblQuotedExactSpec).bare.plain.varTypes Tryz.pinned.checked.prog ++ Tryz.f5.resultTypes.toList).any (Tryz.pinned.checked.prog.veiledRec ·) := by kernel_rfl
theorem hvl2 : Rows.fnDblQuotedExactRow.veiledFits Tryz.pinned.checked.prog Tryz.f5.params.toList (Tryz.f5.params.toList ++ (OpenSpec.ofChange Rows.fnDblQuotedExactSpec).bare.plain.varTypes Tryz.pinned.checked.prog ++ Tryz.f5.resultTypes.toList) = true := by kernel_rfl
end RD
end Go.Proofs.YtnhmgjgdkcgmfaaGreatFmt
