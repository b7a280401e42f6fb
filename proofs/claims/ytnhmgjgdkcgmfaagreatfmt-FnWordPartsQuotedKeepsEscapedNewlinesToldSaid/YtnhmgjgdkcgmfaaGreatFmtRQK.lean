/-
  n010_150.FnWordPartsQuotedKeepsEscapedNewlines: the row's closed facts, each by itself.
-/
import Derived.Test.YtnhmgjgdkcgmfaaGreatFmtCard
import Derived.Test.YtnhmgjgdkcgmfaaGreatFmtCards
namespace Go.Proofs.YtnhmgjgdkcgmfaaGreatFmt
open Go.Extern.Stop Go.Stop Go.Extern
namespace RQ
theorem hw : Rows.fnWordPartsQuotedKeepsEscapedNewlinesRow.wfByText (OpenSpec.ofChange Rows.fnWordPartsQuotedKeepsEscapedNewlinesSpec) = true := by kernel_rfl
theorem htie : namedTie Tryz.pinned.checked.prog Rows.fnWordPartsQuotedKeepsEscapedNewlinesRow.namedList (OpenSpec.ofChange Rows.fnWordPartsQuotedKeepsEscapedNewlinesSpec).vars = true := by kernel_rfl
theorem hfn : Tryz.pinned.checked.prog.funcNamed Rows.fnWordPartsQuotedKeepsEscapedNewlinesRow.func = some 3 := by kernel_rfl
theorem hr : (Tryz.f3.params.toList.all fun t => Tryz.pinned.checked.prog.readableRec t) = true := by kernel_rfl
theorem hinst : Tryz.f3.isInstance Tryz.pinned.checked.prog Rows.fnWordPartsQuotedKeepsEscapedNewlinesRow.origin Rows.fnWordPartsQuotedKeepsEscapedNewlinesRow.targs := of_decide_eq_true (by kernel_rfl)
theorem hwrap : Tryz.f3.isWrapper Tryz.pinned.checked.prog Rows.fnWordPartsQuotedKeepsEscapedNewlinesRow.wrapper Rows.fnWordPartsQuotedKeepsEscapedNewlinesRow.mainSum := of_decide_eq_true (by kernel_rfl)
theorem hstops : Rows.fnWordPartsQuotedKeepsEscapedNewlinesRow.stops = Tryz.pinned.checked.prog.stops := stopsK.symm
theorem hin : Rows.fnWordPartsQuotedKeepsEscapedNewlinesRow.inPlace = Tryz.pinned.checked.prog.inPlace 3 := by kernel_rfl
theorem hop : Rows.fnWordPartsQuotedKeepsEscapedNewlinesRow.unfollowed = Tryz.pinned.checked.prog.unfollowed 3 := by kernel_rfl
theorem hrc : Rows.fnWordPartsQuotedKeepsEscapedNewlinesRow.recurses = Tryz.pinned.checked.prog.recurses 3 := by kernel_rfl
theorem hvs : Rows.fnWordPartsQuotedKeepsEscapedNewlinesRow.named = Tryz.pinned.checked.prog.varsNamed 3 := by kernel_rfl
theorem hmp : Rows.fnWordPartsQuotedKeepsEscapedNewlinesRow.maps = (Tryz.f3.params.toList ++ (OpenSpec.ofChange Rows.fnWordPartsQuotedKeepsEscapedNewlinesSpec).bare.plain.varTypes Tryz.pinned.checked.prog).any (Tryz.pinned.checked.prog.mapsRec ·) := by kernel_rfl
theorem hif : Rows.fnWordPartsQuotedKeepsEscapedNewlinesRow.ifaces = (Tryz.f3.params.toList ++ (OpenSpec.ofChange Rows.fnWordPartsQuotedKeepsEscapedNewlinesSpec).bare.plain.varTypes Tryz.pinned.checked.prog).any (Tryz.pinned.checked.prog.ifacesRec ·) := by kernel_rfl
theorem hmo : Rows.fnWordPartsQuotedKeepsEscapedNewlinesRow.mapsOut = Tryz.pinned.checked.prog.mapsAmong Tryz.f3.resultTypes.toList := by kernel_rfl
theorem hlo : Rows.fnWordPartsQuotedKeepsEscapedNewlinesRow.loops = (Tryz.f3.params.toList ++ (OpenSpec.ofChange Rows.fnWordPartsQuotedKeepsEscapedNewlinesSpec).bare.plain.varTypes Tryz.pinned.checked.prog).any (Tryz.pinned.checked.prog.loopsFrom ·) := by kernel_rfl
theorem hwk : Rows.fnWordPartsQuotedKeepsEscapedNewlinesRow.wideKeys = (Tryz.f3.params.toList ++ (OpenSpec.ofChange Rows.fnWordPartsQuotedKeepsEscapedNewlinesSpec).bare.plain.varTypes Tryz.pinned.checked.prog ++ Tryz.f3.resultTypes.toList).any (Tryz.pinned.checked.prog.wideKeysFrom ·) := by kernel_rfl
theorem hvars : ((OpenSpec.ofChange Rows.fnWordPartsQuotedKeepsEscapedNewlinesSpec).vars.all fun n => Tryz.pinned.checked.prog.varReadable n) = true := by kernel_rfl
theorem hmain : Tryz.pinned.checked.prog.mainIs = some (Rows.fnWordPartsQuotedKeepsEscapedNewlinesCard.stood.harness.1, Rows.fnWordPartsQuotedKeepsEscapedNewlinesCard.stood.harness.2.toList) := by kernel_rfl
theorem hfun : (Tryz.f3.params.toList.all fun t => !Tryz.pinned.checked.prog.wantsStandIn t) = true := by kernel_rfl
theorem hgoes : false = Rows.fnWordPartsQuotedKeepsEscapedNewlinesRow.goesBy Tryz.pinned.checked.prog := by kernel_rfl
theorem m4 : (Tryz.f3.resultTypes.toList.all fun t => Tryz.pinned.checked.prog.readableRec t && decide (t < Tryz.pinned.checked.prog.types.size)) = true := by kernel_rfl
theorem m6 : Rows.fnWordPartsQuotedKeepsEscapedNewlinesRow.ifacesOut = Tryz.f3.resultTypes.toList.any (Tryz.pinned.checked.prog.ifacesRec ·) := by kernel_rfl
theorem m7 : Rows.fnWordPartsQuotedKeepsEscapedNewlinesRow.loopsOut = Tryz.f3.resultTypes.toList.any (Tryz.pinned.checked.prog.loopsFrom ·) := by kernel_rfl
theorem m8 : Rows.fnWordPartsQuotedKeepsEscapedNewlinesRow.kinds = (if Rows.fnWordPartsQuotedKeepsEscapedNewlinesRow.domain.isEmpty then [] else Tryz.f3.params.toList.map fun t => match Tryz.pinned.checked.prog.underlying t with | some (.int k) => some k | _ => none) := by kernel_rfl
theorem m9 : Rows.fnWordPartsQuotedKeepsEscapedNewlinesRow.pinned = Rows.fnWordPartsQuotedKeepsEscapedNewlinesRow.pinnedBy := by kernel_rfl
theorem m10 : Rows.fnWordPartsQuotedKeepsEscapedNewlinesRow.plainKeys = Tryz.pinned.checked.prog.plainKeys := by kernel_rfl
theorem m11 : Rows.fnWordPartsQuotedKeepsEscapedNewlinesRow.lifted = Tryz.pinned.checked.prog.liftsFinal := by kernel_rfl
theorem m12 : Tryz.pinned.checked.prog.make = some Rows.fnWordPartsQuotedKeepsEscapedNewlinesRow.make := by kernel_rfl
theorem hvl1 : Rows.fnWordPartsQuotedKeepsEscapedNewlinesRow.veiled = (Tryz.f3.params.toList ++ (OpenSpec.ofChange Rows.fnWordPartsQuotedKeepsEscapedNewlinesSpec).bare.plain.varTypes Tryz.pinned.checked.prog ++ Tryz.f3.resultTypes.toList).any (Tryz.pinned.checked.prog.veiledRec ·) := by kernel_rfl
theorem hvl2 : Rows.fnWordPartsQuotedKeepsEscapedNewlinesRow.veiledFits Tryz.pinned.checked.prog Tryz.f3.params.toList (Tryz.f3.params.toList ++ (OpenSpec.ofChange Rows.fnWordPartsQuotedKeepsEscapedNewlinesSpec).bare.plain.varTypes Tryz.pinned.checked.prog ++ Tryz.f3.resultTypes.toList) = true := by kernel_rfl
end RQ
end Go.Proofs.YtnhmgjgdkcgmfaaGreatFmt
