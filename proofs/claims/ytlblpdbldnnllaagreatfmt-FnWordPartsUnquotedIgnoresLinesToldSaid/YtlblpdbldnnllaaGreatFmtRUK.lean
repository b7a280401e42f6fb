/-
  n010_150.FnWordPartsUnquotedIgnoresLines: the row's closed facts, each by itself.
-/
import Derived.Test.YtlblpdbldnnllaaGreatFmtCard
import Derived.Test.YtlblpdbldnnllaaGreatFmtCards
namespace Go.Proofs.YtlblpdbldnnllaaGreatFmt
open Go.Extern.Stop Go.Stop Go.Extern
namespace RU
theorem hw : Rows.fnWordPartsUnquotedIgnoresLinesRow.wfByText (OpenSpec.ofChange Rows.fnWordPartsUnquotedIgnoresLinesSpec) = true := by kernel_rfl
theorem htie : namedTie Tryz.pinned.checked.prog Rows.fnWordPartsUnquotedIgnoresLinesRow.namedList (OpenSpec.ofChange Rows.fnWordPartsUnquotedIgnoresLinesSpec).vars = true := by kernel_rfl
theorem hfn : Tryz.pinned.checked.prog.funcNamed Rows.fnWordPartsUnquotedIgnoresLinesRow.func = some 6 := by kernel_rfl
theorem hr : (Tryz.f6.params.toList.all fun t => Tryz.pinned.checked.prog.readableRec t) = true := by kernel_rfl
theorem hinst : Tryz.f6.isInstance Tryz.pinned.checked.prog Rows.fnWordPartsUnquotedIgnoresLinesRow.origin Rows.fnWordPartsUnquotedIgnoresLinesRow.targs := of_decide_eq_true (by kernel_rfl)
theorem hwrap : Tryz.f6.isWrapper Tryz.pinned.checked.prog Rows.fnWordPartsUnquotedIgnoresLinesRow.wrapper Rows.fnWordPartsUnquotedIgnoresLinesRow.mainSum := of_decide_eq_true (by kernel_rfl)
theorem hstops : Rows.fnWordPartsUnquotedIgnoresLinesRow.stops = Tryz.pinned.checked.prog.stops := stopsK.symm
theorem hin : Rows.fnWordPartsUnquotedIgnoresLinesRow.inPlace = Tryz.pinned.checked.prog.inPlace 6 := by kernel_rfl
theorem hop : Rows.fnWordPartsUnquotedIgnoresLinesRow.unfollowed = Tryz.pinned.checked.prog.unfollowed 6 := by kernel_rfl
theorem hrc : Rows.fnWordPartsUnquotedIgnoresLinesRow.recurses = Tryz.pinned.checked.prog.recurses 6 := by kernel_rfl
theorem hvs : Rows.fnWordPartsUnquotedIgnoresLinesRow.named = Tryz.pinned.checked.prog.varsNamed 6 := by kernel_rfl
theorem hmp : Rows.fnWordPartsUnquotedIgnoresLinesRow.maps = (Tryz.f6.params.toList ++ (OpenSpec.ofChange Rows.fnWordPartsUnquotedIgnoresLinesSpec).bare.plain.varTypes Tryz.pinned.checked.prog).any (Tryz.pinned.checked.prog.mapsRec ·) := by kernel_rfl
theorem hif : Rows.fnWordPartsUnquotedIgnoresLinesRow.ifaces = (Tryz.f6.params.toList ++ (OpenSpec.ofChange Rows.fnWordPartsUnquotedIgnoresLinesSpec).bare.plain.varTypes Tryz.pinned.checked.prog).any (Tryz.pinned.checked.prog.ifacesRec ·) := by kernel_rfl
theorem hmo : Rows.fnWordPartsUnquotedIgnoresLinesRow.mapsOut = Tryz.pinned.checked.prog.mapsAmong Tryz.f6.resultTypes.toList := by kernel_rfl
theorem hlo : Rows.fnWordPartsUnquotedIgnoresLinesRow.loops = (Tryz.f6.params.toList ++ (OpenSpec.ofChange Rows.fnWordPartsUnquotedIgnoresLinesSpec).bare.plain.varTypes Tryz.pinned.checked.prog).any (Tryz.pinned.checked.prog.loopsFrom ·) := by kernel_rfl
theorem hwk : Rows.fnWordPartsUnquotedIgnoresLinesRow.wideKeys = (Tryz.f6.params.toList ++ (OpenSpec.ofChange Rows.fnWordPartsUnquotedIgnoresLinesSpec).bare.plain.varTypes Tryz.pinned.checked.prog ++ Tryz.f6.resultTypes.toList).any (Tryz.pinned.checked.prog.wideKeysFrom ·) := by kernel_rfl
theorem hvars : ((OpenSpec.ofChange Rows.fnWordPartsUnquotedIgnoresLinesSpec).vars.all fun n => Tryz.pinned.checked.prog.varReadable n) = true := by kernel_rfl
theorem hmain : Tryz.pinned.checked.prog.mainIs = some (Rows.fnWordPartsUnquotedIgnoresLinesCard.stood.harness.1, Rows.fnWordPartsUnquotedIgnoresLinesCard.stood.harness.2.toList) := by kernel_rfl
theorem hfun : (Tryz.f6.params.toList.all fun t => !Tryz.pinned.checked.prog.wantsStandIn t) = true := by kernel_rfl
theorem hgoes : false = Rows.fnWordPartsUnquotedIgnoresLinesRow.goesBy Tryz.pinned.checked.prog := by kernel_rfl
theorem m4 : (Tryz.f6.resultTypes.toList.all fun t => Tryz.pinned.checked.prog.readableRec t && decide (t < Tryz.pinned.checked.prog.types.size)) = true := by kernel_rfl
theorem m6 : Rows.fnWordPartsUnquotedIgnoresLinesRow.ifacesOut = Tryz.f6.resultTypes.toList.any (Tryz.pinned.checked.prog.ifacesRec ·) := by kernel_rfl
theorem m7 : Rows.fnWordPartsUnquotedIgnoresLinesRow.loopsOut = Tryz.f6.resultTypes.toList.any (Tryz.pinned.checked.prog.loopsFrom ·) := by kernel_rfl
theorem m8 : Rows.fnWordPartsUnquotedIgnoresLinesRow.kinds = (if Rows.fnWordPartsUnquotedIgnoresLinesRow.domain.isEmpty then [] else Tryz.f6.params.toList.map fun t => match Tryz.pinned.checked.prog.underlying t with | some (.int k) => some k | _ => none) := by kernel_rfl
theorem m9 : Rows.fnWordPartsUnquotedIgnoresLinesRow.pinned = Rows.fnWordPartsUnquotedIgnoresLinesRow.pinnedBy := by kernel_rfl
theorem m10 : Rows.fnWordPartsUnquotedIgnoresLinesRow.plainKeys = Tryz.pinned.checked.prog.plainKeys := by kernel_rfl
theorem m11 : Rows.fnWordPartsUnquotedIgnoresLinesRow.lifted = Tryz.pinned.checked.prog.liftsFinal := by kernel_rfl
theorem m12 : Tryz.pinned.checked.prog.make = some Rows.fnWordPartsUnquotedIgnoresLinesRow.make := by kernel_rfl
theorem hvl1 : Rows.fnWordPartsUnquotedIgnoresLinesRow.veiled = (Tryz.f6.params.toList ++ (OpenSpec.ofChange Rows.fnWordPartsUnquotedIgnoresLinesSpec).bare.plain.varTypes Tryz.pinned.checked.prog ++ Tryz.f6.resultTypes.toList).any (Tryz.pinned.checked.prog.veiledRec ·) := by kernel_rfl
theorem hvl2 : Rows.fnWordPartsUnquotedIgnoresLinesRow.veiledFits Tryz.pinned.checked.prog Tryz.f6.params.toList (Tryz.f6.params.toList ++ (OpenSpec.ofChange Rows.fnWordPartsUnquotedIgnoresLinesSpec).bare.plain.varTypes Tryz.pinned.checked.prog ++ Tryz.f6.resultTypes.toList) = true := by kernel_rfl
end RU
end Go.Proofs.YtlblpdbldnnllaaGreatFmt
