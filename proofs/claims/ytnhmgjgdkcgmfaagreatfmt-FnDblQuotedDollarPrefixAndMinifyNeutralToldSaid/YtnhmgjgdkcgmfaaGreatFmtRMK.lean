/-
  n010_150.FnDblQuotedDollarPrefixAndMinifyNeutral: the row's closed facts, each by itself.
-/
import Derived.Test.YtnhmgjgdkcgmfaaGreatFmtCard
import Derived.Test.YtnhmgjgdkcgmfaaGreatFmtCards
namespace Go.Proofs.YtnhmgjgdkcgmfaaGreatFmt
open Go.Extern.Stop Go.Stop Go.Extern
namespace RM
theorem hw : Rows.fnDblQuotedDollarPrefixAndMinifyNeutralRow.wfByText (OpenSpec.ofChange Rows.fnDblQuotedDollarPrefixAndMinifyNeutralSpec) = true := by kernel_rfl
theorem htie : namedTie Tryz.pinned.checked.prog Rows.fnDblQuotedDollarPrefixAndMinifyNeutralRow.namedList (OpenSpec.ofChange Rows.fnDblQuotedDollarPrefixAndMinifyNeutralSpec).vars = true := by kernel_rfl
theorem hfn : Tryz.pinned.checked.prog.funcNamed Rows.fnDblQuotedDollarPrefixAndMinifyNeutralRow.func = some 4 := by kernel_rfl
theorem hr : (Tryz.f4.params.toList.all fun t => Tryz.pinned.checked.prog.readableRec t) = true := by kernel_rfl
theorem hinst : Tryz.f4.isInstance Tryz.pinned.checked.prog Rows.fnDblQuotedDollarPrefixAndMinifyNeutralRow.origin Rows.fnDblQuotedDollarPrefixAndMinifyNeutralRow.targs := of_decide_eq_true (by kernel_rfl)
theorem hwrap : Tryz.f4.isWrapper Tryz.pinned.checked.prog Rows.fnDblQuotedDollarPrefixAndMinifyNeutralRow.wrapper Rows.fnDblQuotedDollarPrefixAndMinifyNeutralRow.mainSum := of_decide_eq_true (by kernel_rfl)
theorem hstops : Rows.fnDblQuotedDollarPrefixAndMinifyNeutralRow.stops = Tryz.pinned.checked.prog.stops := stopsK.symm
theorem hin : Rows.fnDblQuotedDollarPrefixAndMinifyNeutralRow.inPlace = Tryz.pinned.checked.prog.inPlace 4 := by kernel_rfl
theorem hop : Rows.fnDblQuotedDollarPrefixAndMinifyNeutralRow.unfollowed = Tryz.pinned.checked.prog.unfollowed 4 := by kernel_rfl
theorem hrc : Rows.fnDblQuotedDollarPrefixAndMinifyNeutralRow.recurses = Tryz.pinned.checked.prog.recurses 4 := by kernel_rfl
theorem hvs : Rows.fnDblQuotedDollarPrefixAndMinifyNeutralRow.named = Tryz.pinned.checked.prog.varsNamed 4 := by kernel_rfl
theorem hmp : Rows.fnDblQuotedDollarPrefixAndMinifyNeutralRow.maps = (Tryz.f4.params.toList ++ (OpenSpec.ofChange Rows.fnDblQuotedDollarPrefixAndMinifyNeutralSpec).bare.plain.varTypes Tryz.pinned.checked.prog).any (Tryz.pinned.checked.prog.mapsRec ·) := by kernel_rfl
theorem hif : Rows.fnDblQuotedDollarPrefixAndMinifyNeutralRow.ifaces = (Tryz.f4.params.toList ++ (OpenSpec.ofChange Rows.fnDblQuotedDollarPrefixAndMinifyNeutralSpec).bare.plain.varTypes Tryz.pinned.checked.prog).any (Tryz.pinned.checked.prog.ifacesRec ·) := by kernel_rfl
theorem hmo : Rows.fnDblQuotedDollarPrefixAndMinifyNeutralRow.mapsOut = Tryz.pinned.checked.prog.mapsAmong Tryz.f4.resultTypes.toList := by kernel_rfl
theorem hlo : Rows.fnDblQuotedDollarPrefixAndMinifyNeutralRow.loops = (Tryz.f4.params.toList ++ (OpenSpec.ofChange Rows.fnDblQuotedDollarPrefixAndMinifyNeutralSpec).bare.plain.varTypes Tryz.pinned.checked.prog).any (Tryz.pinned.checked.prog.loopsFrom ·) := by kernel_rfl
theorem hwk : Rows.fnDblQuotedDollarPrefixAndMinifyNeutralRow.wideKeys = (Tryz.f4.params.toList ++ (OpenSpec.ofChange Rows.fnDblQuotedDollarPrefixAndMinifyNeutralSpec).bare.plain.varTypes Tryz.pinned.checked.prog ++ Tryz.f4.resultTypes.toList).any (Tryz.pinned.checked.prog.wideKeysFrom ·) := by kernel_rfl
theorem hvars : ((OpenSpec.ofChange Rows.fnDblQuotedDollarPrefixAndMinifyNeutralSpec).vars.all fun n => Tryz.pinned.checked.prog.varReadable n) = true := by kernel_rfl
theorem hmain : Tryz.pinned.checked.prog.mainIs = some (Rows.fnDblQuotedDollarPrefixAndMinifyNeutralCard.stood.harness.1, Rows.fnDblQuotedDollarPrefixAndMinifyNeutralCard.stood.harness.2.toList) := by kernel_rfl
theorem hfun : (Tryz.f4.params.toList.all fun t => !Tryz.pinned.checked.prog.wantsStandIn t) = true := by kernel_rfl
theorem hgoes : false = Rows.fnDblQuotedDollarPrefixAndMinifyNeutralRow.goesBy Tryz.pinned.checked.prog := by kernel_rfl
theorem m4 : (Tryz.f4.resultTypes.toList.all fun t => Tryz.pinned.checked.prog.readableRec t && decide (t < Tryz.pinned.checked.prog.types.size)) = true := by kernel_rfl
theorem m6 : Rows.fnDblQuotedDollarPrefixAndMinifyNeutralRow.ifacesOut = Tryz.f4.resultTypes.toList.any (Tryz.pinned.checked.prog.ifacesRec ·) := by kernel_rfl
theorem m7 : Rows.fnDblQuotedDollarPrefixAndMinifyNeutralRow.loopsOut = Tryz.f4.resultTypes.toList.any (Tryz.pinned.checked.prog.loopsFrom ·) := by kernel_rfl
theorem m8 : Rows.fnDblQuotedDollarPrefixAndMinifyNeutralRow.kinds = (if Rows.fnDblQuotedDollarPrefixAndMinifyNeutralRow.domain.isEmpty then [] else Tryz.f4.params.toList.map fun t => match Tryz.pinned.checked.prog.underlying t with | some (.int k) => some k | _ => none) := by kernel_rfl
theorem m9 : Rows.fnDblQuotedDollarPrefixAndMinifyNeutralRow.pinned = Rows.fnDblQuotedDollarPrefixAndMinifyNeutralRow.pinnedBy := by kernel_rfl
theorem m10 : Rows.fnDblQuotedDollarPrefixAndMinifyNeutralRow.plainKeys = Tryz.pinned.checked.prog.plainKeys := by kernel_rfl
theorem m11 : Rows.fnDblQuotedDollarPrefixAndMinifyNeutralRow.lifted = Tryz.pinned.checked.prog.liftsFinal := by kernel_rfl
theorem m12 : Tryz.pinned.checked.prog.make = some Rows.fnDblQuotedDollarPrefixAndMinifyNeutralRow.make := by kernel_rfl
theorem hvl1 : Rows.fnDblQuotedDollarPrefixAndMinifyNeutralRow.veiled = (Tryz.f4.params.toList ++ (OpenSpec.ofChange Rows.fnDblQuotedDollarPrefixAndMinifyNeutralSpec).bare.plain.varTypes Tryz.pinned.checked.prog ++ Tryz.f4.resultTypes.toList).any (Tryz.pinned.checked.prog.veiledRec ·) := by kernel_rfl
theorem hvl2 : Rows.fnDblQuotedDollarPrefixAndMinifyNeutralRow.veiledFits Tryz.pinned.checked.prog Tryz.f4.params.toList (Tryz.f4.params.toList ++ (OpenSpec.ofChange Rows.fnDblQuotedDollarPrefixAndMinifyNeutralSpec).bare.plain.varTypes Tryz.pinned.checked.prog ++ Tryz.f4.resultTypes.toList) = true := by kernel_rfl
end RM
end Go.Proofs.YtnhmgjgdkcgmfaaGreatFmt
