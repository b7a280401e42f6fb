/-
  n010_150.FnWordPartSglQuotedExact: the row's closed facts, each by itself.
-/
import Derived.Test.YtlblpdbldnnllaaGreatFmtCard
import Derived.Test.YtlblpdbldnnllaaGreatFmtCards
namespace Go.Proofs.YtlblpdbldnnllaaGreatFmt
open Go.Extern.Stop Go.Stop Go.Extern
namespace RS
theorem hw : Rows.fnWordPartSglQuotedExactRow.wfByText (OpenSpec.ofChange Rows.fnWordPartSglQuotedExactSpec) = true := by kernel_rfl
theorem htie : namedTie Tryz.pinned.checked.prog Rows.fnWordPartSglQuotedExactRow.namedList (OpenSpec.ofChange Rows.fnWordPartSglQuotedExactSpec).vars = true := by kernel_rfl
theorem hfn : Tryz.pinned.checked.prog.funcNamed Rows.fnWordPartSglQuotedExactRow.func = some 4 := by kernel_rfl
theorem hr : (Tryz.f4.params.toList.all fun t => Tryz.pinned.checked.prog.readableRec t) = true := by kernel_rfl
theorem hinst : Tryz.f4.isInstance Tryz.pinned.checked.prog Rows.fnWordPartSglQuotedExactRow.origin Rows.fnWordPartSglQuotedExactRow.targs := of_decide_eq_true (by kernel_rfl)
theorem hwrap : Tryz.f4.isWrapper Tryz.pinned.checked.prog Rows.fnWordPartSglQuotedExactRow.wrapper Rows.fnWordPartSglQuotedExactRow.mainSum := of_decide_eq_true (by kernel_rfl)
theorem hstops : Rows.fnWordPartSglQuotedExactRow.stops = Tryz.pinned.checked.prog.stops := stopsK.symm
theorem hin : Rows.fnWordPartSglQuotedExactRow.inPlace = Tryz.pinned.checked.prog.inPlace 4 := by kernel_rfl
theorem hop : Rows.fnWordPartSglQuotedExactRow.unfollowed = Tryz.pinned.checked.prog.unfollowed 4 := by kernel_rfl
theorem hrc : Rows.fnWordPartSglQuotedExactRow.recurses = Tryz.pinned.checked.prog.recurses 4 := by kernel_rfl
theorem hvs : Rows.fnWordPartSglQuotedExactRow.named = Tryz.pinned.checked.prog.varsNamed 4 := by kernel_rfl
theorem hmp : Rows.fnWordPartSglQuotedExactRow.maps = (Tryz.f4.params.toList ++ (OpenSpec.ofChange Rows.fnWordPartSglQuotedExactSpec).bare.plain.varTypes Tryz.pinned.checked.prog).any (Tryz.pinned.checked.prog.mapsRec ·) := by kernel_rfl
theorem hif : Rows.fnWordPartSglQuotedExactRow.ifaces = (Tryz.f4.params.toList ++ (OpenSpec.ofChange Rows.fnWordPartSglQuotedExactSpec).bare.plain.varTypes Tryz.pinned.checked.prog).any (Tryz.pinned.checked.prog.ifacesRec ·) := by kernel_rfl
theorem hmo : Rows.fnWordPartSglQuotedExactRow.mapsOut = Tryz.pinned.checked.prog.mapsAmong Tryz.f4.resultTypes.toList := by kernel_rfl
theorem hlo : Rows.fnWordPartSglQuotedExactRow.loops = (Tryz.f4.params.toList ++ (OpenSpec.ofChange Rows.fnWordPartSglQuotedExactSpec).bare.plain.varTypes Tryz.pinned.checked.prog).any (Tryz.pinned.checked.prog.loopsFrom ·) := by kernel_rfl
theorem hwk : Rows.fnWordPartSglQuotedExactRow.wideKeys = (Tryz.f4.params.toList ++ (OpenSpec.ofChange Rows.fnWordPartSglQuotedExactSpec).bare.plain.varTypes Tryz.pinned.checked.prog ++ Tryz.f4.resultTypes.toList).any (Tryz.pinned.checked.prog.wideKeysFrom ·) := by kernel_rfl
theorem hvars : ((OpenSpec.ofChange Rows.fnWordPartSglQuotedExactSpec).vars.all fun n => Tryz.pinned.checked.prog.varReadable n) = true := by kernel_rfl
theorem hmain : Tryz.pinned.checked.prog.mainIs = some (Rows.fnWordPartSglQuotedExactCard.stood.harness.1, Rows.fnWordPartSglQuotedExactCard.stood.harness.2.toList) := by kernel_rfl
theorem hfun : (Tryz.f4.params.toList.all fun t => !Tryz.pinned.checked.prog.wantsStandIn t) = true := by kernel_rfl
theorem hgoes : false = Rows.fnWordPartSglQuotedExactRow.goesBy Tryz.pinned.checked.prog := by kernel_rfl
theorem m4 : (Tryz.f4.resultTypes.toList.all fun t => Tryz.pinned.checked.prog.readableRec t && decide (t < Tryz.pinned.checked.prog.types.size)) = true := by kernel_rfl
theorem m6 : Rows.fnWordPartSglQuotedExactRow.ifacesOut = Tryz.f4.resultTypes.toList.any (Tryz.pinned.checked.prog.ifacesRec ·) := by kernel_rfl
theorem m7 : Rows.fnWordPartSglQuotedExactRow.loopsOut = Tryz.f4.resultTypes.toList.any (Tryz.pinned.checked.prog.loopsFrom ·) := by kernel_rfl
theorem m8 : Rows.fnWordPartSglQuotedExactRow.kinds = (if Rows.fnWordPartSglQuotedExactRow.domain.isEmpty then [] else Tryz.f4.params.toList.map fun t => match Tryz.pinned.checked.prog.underlying t with | some (.int k) => some k | _ => none) := by kernel_rfl
theorem m9 : Rows.fnWordPartSglQuotedExactRow.pinned = Rows.fnWordPartSglQuotedExactRow.pinnedBy := by kernel_rfl
theorem m10 : Rows.fnWordPartSglQuotedExactRow.plainKeys = Tryz.pinned.checked.prog.plainKeys := by kernel_rfl
theorem m11 : Rows.fnWordPartSglQuotedExactRow.lifted = Tryz.pinned.checked.prog.liftsFinal := by kernel_rfl
theorem m12 : Tryz.pinned.checked.prog.make = some Rows.fnWordPartSglQuotedExactRow.make := by kernel_rfl
theorem hvl1 : Rows.fnWordPartSglQuotedExactRow.veiled = (Tryz.f4.params.toList ++ (OpenSpec.ofChange Rows.fnWordPartSglQuotedExactSpec).bare.plain.varTypes Tryz.pinned.checked.prog ++ Tryz.f4.resultTypes.toList).any (Tryz.pinned.checked.prog.veiledRec ·) := by kernel_rfl
theorem hvl2 : Rows.fnWordPartSglQuotedExactRow.veiledFits Tryz.pinned.checked.prog Tryz.f4.params.toList (Tryz.f4.params.toList ++ (OpenSpec.ofChange Rows.fnWordPartSglQuotedExactSpec).bare.plain.varTypes Tryz.pinned.checked.prog ++ Tryz.f4.resultTypes.toList) = true := by kernel_rfl
end RS
end Go.Proofs.YtlblpdbldnnllaaGreatFmt
