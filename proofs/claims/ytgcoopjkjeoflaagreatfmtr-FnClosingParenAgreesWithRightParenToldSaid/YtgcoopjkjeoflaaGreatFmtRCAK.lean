/-
  n010_157.FnClosingParenAgreesWithRightParen: the row's closed facts, each by itself.
-/
import Derived.Test.YtgcoopjkjeoflaaGreatFmtRCard
import Derived.Test.YtgcoopjkjeoflaaGreatFmtRCards
namespace Go.Proofs.YtgcoopjkjeoflaaGreatFmtR
open Go.Extern.Stop Go.Stop Go.Extern
namespace CA
theorem hw : Rows.fnClosingParenAgreesWithRightParenRow.wfByText (OpenSpec.ofChange Rows.fnClosingParenAgreesWithRightParenSpec) = true := by kernel_rfl
theorem htie : namedTie Tryz.pinned.checked.prog Rows.fnClosingParenAgreesWithRightParenRow.namedList (OpenSpec.ofChange Rows.fnClosingParenAgreesWithRightParenSpec).vars = true := by kernel_rfl
theorem hfn : Tryz.pinned.checked.prog.funcNamed Rows.fnClosingParenAgreesWithRightParenRow.func = some 5 := by kernel_rfl
theorem hr : (Tryz.f5.params.toList.all fun t => Tryz.pinned.checked.prog.readableRec t) = true := by kernel_rfl
theorem hinst : Tryz.f5.isInstance Tryz.pinned.checked.prog Rows.fnClosingParenAgreesWithRightParenRow.origin Rows.fnClosingParenAgreesWithRightParenRow.targs := of_decide_eq_true (by kernel_rfl)
theorem hwrap : Tryz.f5.isWrapper Tryz.pinned.checked.prog Rows.fnClosingParenAgreesWithRightParenRow.wrapper Rows.fnClosingParenAgreesWithRightParenRow.mainSum := of_decide_eq_true (by kernel_rfl)
theorem hstops : Rows.fnClosingParenAgreesWithRightParenRow.stops = Tryz.pinned.checked.prog.stops := stopsK.symm
theorem hin : Rows.fnClosingParenAgreesWithRightParenRow.inPlace = Tryz.pinned.checked.prog.inPlace 5 := by kernel_rfl
theorem hop : Rows.fnClosingParenAgreesWithRightParenRow.unfollowed = Tryz.pinned.checked.prog.unfollowed 5 := by kernel_rfl
theorem hrc : Rows.fnClosingParenAgreesWithRightParenRow.recurses = Tryz.pinned.checked.prog.recurses 5 := by kernel_rfl
theorem hvs : Rows.fnClosingParenAgreesWithRightParenRow.named = Tryz.pinned.checked.prog.varsNamed 5 := by kernel_rfl
theorem hmp : Rows.fnClosingParenAgreesWithRightParenRow.maps = (Tryz.f5.params.toList ++ (OpenSpec.ofChange Rows.fnClosingParenAgreesWithRightParenSpec).bare.plain.varTypes Tryz.pinned.checked.prog).any (Tryz.pinned.checked.prog.mapsRec ·) := by kernel_rfl
theorem hif : Rows.fnClosingParenAgreesWithRightParenRow.ifaces = (Tryz.f5.params.toList ++ (OpenSpec.ofChange Rows.fnClosingParenAgreesWithRightParenSpec).bare.plain.varTypes Tryz.pinned.checked.prog).any (Tryz.pinned.checked.prog.ifacesRec ·) := by kernel_rfl
theorem hmo : Rows.fnClosingParenAgreesWithRightParenRow.mapsOut = Tryz.pinned.checked.prog.mapsAmong Tryz.f5.resultTypes.toList := by kernel_rfl
theorem hlo : Rows.fnClosingParenAgreesWithRightParenRow.loops = (Tryz.f5.params.toList ++ (OpenSpec.ofChange Rows.fnClosingParenAgreesWithRightParenSpec).bare.plain.varTypes Tryz.pinned.checked.prog).any (Tryz.pinned.checked.prog.loopsFrom ·) := by kernel_rfl
theorem hwk : Rows.fnClosingParenAgreesWithRightParenRow.wideKeys = (Tryz.f5.params.toList ++ (OpenSpec.ofChange Rows.fnClosingParenAgreesWithRightParenSpec).bare.plain.varTypes Tryz.pinned.checked.prog ++ Tryz.f5.resultTypes.toList).any (Tryz.pinned.checked.prog.wideKeysFrom ·) := by kernel_rfl
theorem hvars : ((OpenSpec.ofChange Rows.fnClosingParenAgreesWithRightParenSpec).vars.all fun n => Tryz.pinned.checked.prog.varReadable n) = true := by kernel_rfl
theorem hmain : Tryz.pinned.checked.prog.mainIs = some (Rows.fnClosingParenAgreesWithRightParenCard.stood.harness.1, Rows.fnClosingParenAgreesWithRightParenCard.stood.harness.2.toList) := by kernel_rfl
theorem hfun : (Tryz.f5.params.toList.all fun t => !Tryz.pinned.checked.prog.wantsStandIn t) = true := by kernel_rfl
theorem hgoes : false = Rows.fnClosingParenAgreesWithRightParenRow.goesBy Tryz.pinned.checked.prog := by kernel_rfl
theorem m4 : (Tryz.f5.resultTypes.toList.all fun t => Tryz.pinned.checked.prog.readableRec t && decide (t < Tryz.pinned.checked.prog.types.size)) = true := by kernel_rfl
theorem m6 : Rows.fnClosingParenAgreesWithRightParenRow.ifacesOut = Tryz.f5.resultTypes.toList.any (Tryz.pinned.checked.prog.ifacesRec ·) := by kernel_rfl
theorem m7 : Rows.fnClosingParenAgreesWithRightParenRow.loopsOut = Tryz.f5.resultTypes.toList.any (Tryz.pinned.checked.prog.loopsFrom ·) := by kernel_rfl
theorem m8 : Rows.fnClosingParenAgreesWithRightParenRow.kinds = (if Rows.fnClosingParenAgreesWithRightParenRow.domain.isEmpty then [] else Tryz.f5.params.toList.map fun t => match Tryz.pinned.checked.prog.underlying t with | some (.int k) => some k | _ => none) := by kernel_rfl
theorem m9 : Rows.fnClosingParenAgreesWithRightParenRow.pinned = Rows.fnClosingParenAgreesWithRightParenRow.pinnedBy := by kernel_rfl
theorem m10 : Rows.fnClosingParenAgreesWithRightParenRow.plainKeys = Tryz.pinned.checked.prog.plainKeys := by kernel_rfl
theorem m11 : Rows.fnClosingParenAgreesWithRightParenRow.lifted = Tryz.pinned.checked.prog.liftsFinal := by kernel_rfl
theorem m12 : Tryz.pinned.checked.prog.make = some Rows.fnClosingParenAgreesWithRightParenRow.make := by kernel_rfl
theorem hvl1 : Rows.fnClosingParenAgreesWithRightParenRow.veiled = (Tryz.f5.params.toList ++ (OpenSpec.ofChange Rows.fnClosingParenAgreesWithRightParenSpec).bare.plain.varTypes Tryz.pinned.checked.prog ++ Tryz.f5.resultTypes.toList).any (Tryz.pinned.checked.prog.veiledRec ·) := by kernel_rfl
theorem hvl2 : Rows.fnClosingParenAgreesWithRightParenRow.veiledFits Tryz.pinned.checked.prog Tryz.f5.params.toList (Tryz.f5.params.toList ++ (OpenSpec.ofChange Rows.fnClosingParenAgreesWithRightParenSpec).bare.plain.varTypes Tryz.pinned.checked.prog ++ Tryz.f5.resultTypes.toList) = true := by kernel_rfl
end CA
end Go.Proofs.YtgcoopjkjeoflaaGreatFmtR
