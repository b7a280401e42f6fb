/-
  n010_150.FnWordPartLitEscapesOddTrailingBackslash: the row's closed facts, each by itself.
-/
import Derived.Test.YtlblpdbldnnllaaGreatFmtCard
import Derived.Test.YtlblpdbldnnllaaGreatFmtCards
namespace Go.Proofs.YtlblpdbldnnllaaGreatFmt
open Go.Extern.Stop Go.Stop Go.Extern
namespace RL
theorem hw : Rows.fnWordPartLitEscapesOddTrailingBackslashRow.wfByText (OpenSpec.ofChange Rows.fnWordPartLitEscapesOddTrailingBackslashSpec) = true := by kernel_rfl
theorem htie : namedTie Tryz.pinned.checked.prog Rows.fnWordPartLitEscapesOddTrailingBackslashRow.namedList (OpenSpec.ofChange Rows.fnWordPartLitEscapesOddTrailingBackslashSpec).vars = true := by kernel_rfl
theorem hfn : Tryz.pinned.checked.prog.funcNamed Rows.fnWordPartLitEscapesOddTrailingBackslashRow.func = some 3 := by kernel_rfl
theorem hr : (Tryz.f3.params.toList.all fun t => Tryz.pinned.checked.prog.readableRec t) = true := by kernel_rfl
theorem hinst : Tryz.f3.isInstance Tryz.pinned.checked.prog Rows.fnWordPartLitEscapesOddTrailingBackslashRow.origin Rows.fnWordPartLitEscapesOddTrailingBackslashRow.targs := of_decide_eq_true (by kernel_rfl)
theorem hwrap : Tryz.f3.isWrapper Tryz.pinned.checked.prog Rows.fnWordPartLitEscapesOddTrailingBackslashRow.wrapper Rows.fnWordPartLitEscapesOddTrailingBackslashRow.mainSum := of_decide_eq_true (by kernel_rfl)
theorem hstops : Rows.fnWordPartLitEscapesOddTrailingBackslashRow.stops = Tryz.pinned.checked.prog.stops := stopsK.symm
theorem hin : Rows.fnWordPartLitEscapesOddTrailingBackslashRow.inPlace = Tryz.pinned.checked.prog.inPlace 3 := by kernel_rfl
theorem hop : Rows.fnWordPartLitEscapesOddTrailingBackslashRow.unfollowed = Tryz.pinned.checked.prog.unfollowed 3 := by kernel_rfl
theorem hrc : Rows.fnWordPartLitEscapesOddTrailingBackslashRow.recurses = Tryz.pinned.checked.prog.recurses 3 := by kernel_rfl
theorem hvs : Rows.fnWordPartLitEscapesOddTrailingBackslashRow.named = Tryz.pinned.checked.prog.varsNamed 3 := by kernel_rfl
theorem hmp : Rows.fnWordPartLitEscapesOddTrailingBackslashRow.maps = (Tryz.f3.params.toList ++ (OpenSpec.ofChange Rows.fnWordPartLitEscapesOddTrailingBackslashSpec).bare.plain.varTypes Tryz.pinned.checked.prog).any (Tryz.pinned.checked.prog.mapsRec ·) := by kernel_rfl
theorem hif : Rows.fnWordPartLitEscapesOddTrailingBackslashRow.ifaces = (Tryz.f3.params.toList ++ (OpenSpec.ofChange Rows.fnWordPartLitEscapesOddTrailingBackslashSpec).bare.plain.varTypes Tryz.pinned.checked.prog).any (Tryz.pinned.checked.prog.ifacesRec ·) := by kernel_rfl
theorem hmo : Rows.fnWordPartLitEscapesOddTrailingBackslashRow.mapsOut = Tryz.pinned.checked.prog.mapsAmong Tryz.f3.resultTypes.toList := by kernel_rfl
theorem hlo : Rows.fnWordPartLitEscapesOddTrailingBackslashRow.loops = (Tryz.f3.params.toList ++ (OpenSpec.ofChange Rows.fnWordPartLitEscapesOddTrailingBackslashSpec).bare.plain.varTypes Tryz.pinned.checked.prog).any (Tryz.pinned.checked.prog.loopsFrom ·) := by kernel_rfl
theorem hwk : Rows.fnWordPartLitEscapesOddTrailingBackslashRow.wideKeys = (Tryz.f3.params.toList ++ (OpenSpec.ofChange Rows.fnWordPartLitEscapesOddTrailingBackslashSpec).bare.plain.varTypes Tryz.pinned.checked.prog ++ Tryz.f3.resultTypes.toList).any (Tryz.pinned.checked.prog.wideKeysFrom ·) := by kernel_rfl
theorem hvars : ((OpenSpec.ofChange Rows.fnWordPartLitEscapesOddTrailingBackslashSpec).vars.all fun n => Tryz.pinned.checked.prog.varReadable n) = true := by kernel_rfl
theorem hmain : Tryz.pinned.checked.prog.mainIs = some (Rows.fnWordPartLitEscapesOddTrailingBackslashCard.stood.harness.1, Rows.fnWordPartLitEscapesOddTrailingBackslashCard.stood.harness.2.toList) := by kernel_rfl
theorem hfun : (Tryz.f3.params.toList.all fun t => !Tryz.pinned.checked.prog.wantsStandIn t) = true := by kernel_rfl
theorem hgoes : false = Rows.fnWordPartLitEscapesOddTrailingBackslashRow.goesBy Tryz.pinned.checked.prog := by kernel_rfl
theorem m4 : (Tryz.f3.resultTypes.toList.all fun t => Tryz.pinned.checked.prog.readableRec t && decide (t < Tryz.pinned.checked.prog.types.size)) = true := by kernel_rfl
theorem m6 : Rows.fnWordPartLitEscapesOddTrailingBackslashRow.ifacesOut = Tryz.f3.resultTypes.toList.any (Tryz.pinned.checked.prog.ifacesRec ·) := by kernel_rfl
theorem m7 : Rows.fnWordPartLitEscapesOddTrailingBackslashRow.loopsOut = Tryz.f3.resultTypes.toList.any (Tryz.pinned.checked.prog.loopsFrom ·) := by kernel_rfl
theorem m8 : Rows.fnWordPartLitEscapesOddTrailingBackslashRow.kinds = (if Rows.fnWordPartLitEscapesOddTrailingBackslashRow.domain.isEmpty then [] else Tryz.f3.params.toList.map fun t => match Tryz.pinned.checked.prog.underlying t with | some (.int k) => some k | _ => none) := by kernel_rfl
theorem m9 : Rows.fnWordPartLitEscapesOddTrailingBackslashRow.pinned = Rows.fnWordPartLitEscapesOddTrailingBackslashRow.pinnedBy := by kernel_rfl
theorem m10 : Rows.fnWordPartLitEscapesOddTrailingBackslashRow.plainKeys = Tryz.pinned.checked.prog.plainKeys := by kernel_rfl
theorem m11 : Rows.fnWordPartLitEscapesOddTrailingBackslashRow.lifted = Tryz.pinned.checked.prog.liftsFinal := by kernel_rfl
theorem m12 : Tryz.pinned.checked.prog.make = some Rows.fnWordPartLitEscapesOddTrailingBackslashRow.make := by kernel_rfl
theorem hvl1 : Rows.fnWordPartLitEscapesOddTrailingBackslashRow.veiled = (Tryz.f3.params.toList ++ (OpenSpec.ofChange Rows.fnWordPartLitEscapesOddTrailingBackslashSpec).bare.plain.varTypes Tryz.pinned.checked.prog ++ Tryz.f3.resultTypes.toList).any (Tryz.pinned.checked.prog.veiledRec ·) := by kernel_rfl
theorem hvl2 : Rows.fnWordPartLitEscapesOddTrailingBackslashRow.veiledFits Tryz.pinned.checked.prog Tryz.f3.params.toList (Tryz.f3.params.toList ++ (OpenSpec.ofChange Rows.fnWordPartLitEscapesOddTrailingBackslashSpec).bare.plain.varTypes Tryz.pinned.checked.prog ++ Tryz.f3.resultTypes.toList) = true := by kernel_rfl
end RL
end Go.Proofs.YtlblpdbldnnllaaGreatFmt
