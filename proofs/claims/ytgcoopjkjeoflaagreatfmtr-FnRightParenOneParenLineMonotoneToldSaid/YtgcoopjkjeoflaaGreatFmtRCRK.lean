/-
  n010_157.FnRightParenOneParenLineMonotone: the row's closed facts, each by itself.
-/
import Derived.Test.YtgcoopjkjeoflaaGreatFmtRCard
import Derived.Test.YtgcoopjkjeoflaaGreatFmtRCards
namespace Go.Proofs.YtgcoopjkjeoflaaGreatFmtR
open Go.Extern.Stop Go.Stop Go.Extern
namespace CR
theorem hw : Rows.fnRightParenOneParenLineMonotoneRow.wfByText (OpenSpec.ofChange Rows.fnRightParenOneParenLineMonotoneSpec) = true := by kernel_rfl
theorem htie : namedTie Tryz.pinned.checked.prog Rows.fnRightParenOneParenLineMonotoneRow.namedList (OpenSpec.ofChange Rows.fnRightParenOneParenLineMonotoneSpec).vars = true := by kernel_rfl
theorem hfn : Tryz.pinned.checked.prog.funcNamed Rows.fnRightParenOneParenLineMonotoneRow.func = some 3 := by kernel_rfl
theorem hr : (Tryz.f3.params.toList.all fun t => Tryz.pinned.checked.prog.readableRec t) = true := by kernel_rfl
theorem hinst : Tryz.f3.isInstance Tryz.pinned.checked.prog Rows.fnRightParenOneParenLineMonotoneRow.origin Rows.fnRightParenOneParenLineMonotoneRow.targs := of_decide_eq_true (by kernel_rfl)
theorem hwrap : Tryz.f3.isWrapper Tryz.pinned.checked.prog Rows.fnRightParenOneParenLineMonotoneRow.wrapper Rows.fnRightParenOneParenLineMonotoneRow.mainSum := of_decide_eq_true (by kernel_rfl)
theorem hstops : Rows.fnRightParenOneParenLineMonotoneRow.stops = Tryz.pinned.checked.prog.stops := stopsK.symm
theorem hin : Rows.fnRightParenOneParenLineMonotoneRow.inPlace = Tryz.pinned.checked.prog.inPlace 3 := by kernel_rfl
theorem hop : Rows.fnRightParenOneParenLineMonotoneRow.unfollowed = Tryz.pinned.checked.prog.unfollowed 3 := by kernel_rfl
theorem hrc : Rows.fnRightParenOneParenLineMonotoneRow.recurses = Tryz.pinned.checked.prog.recurses 3 := by kernel_rfl
theorem hvs : Rows.fnRightParenOneParenLineMonotoneRow.named = Tryz.pinned.checked.prog.varsNamed 3 := by kernel_rfl
theorem hmp : Rows.fnRightParenOneParenLineMonotoneRow.maps = (Tryz.f3.params.toList ++ (OpenSpec.ofChange Rows.fnRightParenOneParenLineMonotoneSpec).bare.plain.varTypes Tryz.pinned.checked.prog).any (Tryz.pinned.checked.prog.mapsRec ·) := by kernel_rfl
theorem hif : Rows.fnRightParenOneParenLineMonotoneRow.ifaces = (Tryz.f3.params.toList ++ (OpenSpec.ofChange Rows.fnRightParenOneParenLineMonotoneSpec).bare.plain.varTypes Tryz.pinned.checked.prog).any (Tryz.pinned.checked.prog.ifacesRec ·) := by kernel_rfl
theorem hmo : Rows.fnRightParenOneParenLineMonotoneRow.mapsOut = Tryz.pinned.checked.prog.mapsAmong Tryz.f3.resultTypes.toList := by kernel_rfl
theorem hlo : Rows.fnRightParenOneParenLineMonotoneRow.loops = (Tryz.f3.params.toList ++ (OpenSpec.ofChange Rows.fnRightParenOneParenLineMonotoneSpec).bare.plain.varTypes Tryz.pinned.checked.prog).any (Tryz.pinned.checked.prog.loopsFrom ·) := by kernel_rfl
theorem hwk : Rows.fnRightParenOneParenLineMonotoneRow.wideKeys = (Tryz.f3.params.toList ++ (OpenSpec.ofChange Rows.fnRightParenOneParenLineMonotoneSpec).bare.plain.varTypes Tryz.pinned.checked.prog ++ Tryz.f3.resultTypes.toList).any (Tryz.pinned.checked.prog.wideKeysFrom ·) := by kernel_rfl
theorem hvars : ((OpenSpec.ofChange Rows.fnRightParenOneParenLineMonotoneSpec).vars.all fun n => Tryz.pinned.checked.prog.varReadable n) = true := by kernel_rfl
theorem hmain : Tryz.pinned.checked.prog.mainIs = some (Rows.fnRightParenOneParenLineMonotoneCard.stood.harness.1, Rows.fnRightParenOneParenLineMonotoneCard.stood.harness.2.toList) := by kernel_rfl
theorem hfun : (Tryz.f3.params.toList.all fun t => !Tryz.pinned.checked.prog.wantsStandIn t) = true := by kernel_rfl
theorem hgoes : false = Rows.fnRightParenOneParenLineMonotoneRow.goesBy Tryz.pinned.checked.prog := by kernel_rfl
theorem m4 : (Tryz.f3.resultTypes.toList.all fun t => Tryz.pinned.checked.prog.readableRec t && decide (t < Tryz.pinned.checked.prog.types.size)) = true := by kernel_rfl
theorem m6 : Rows.fnRightParenOneParenLineMonotoneRow.ifacesOut = Tryz.f3.resultTypes.toList.any (Tryz.pinned.checked.prog.ifacesRec ·) := by kernel_rfl
theorem m7 : Rows.fnRightParenOneParenLineMonotoneRow.loopsOut = Tryz.f3.resultTypes.toList.any (Tryz.pinned.checked.prog.loopsFrom ·) := by kernel_rfl
theorem m8 : Rows.fnRightParenOneParenLineMonotoneRow.kinds = (if Rows.fnRightParenOneParenLineMonotoneRow.domain.isEmpty then [] else Tryz.f3.params.toList.map fun t => match Tryz.pinned.checked.prog.underlying t with | some (.int k) => some k | _ => none) := by kernel_rfl
theorem m9 : Rows.fnRightParenOneParenLineMonotoneRow.pinned = Rows.fnRightParenOneParenLineMonotoneRow.pinnedBy := by kernel_rfl
theorem m10 : Rows.fnRightParenOneParenLineMonotoneRow.plainKeys = Tryz.pinned.checked.prog.plainKeys := by kernel_rfl
theorem m11 : Rows.fnRightParenOneParenLineMonotoneRow.lifted = Tryz.pinned.checked.prog.liftsFinal := by kernel_rfl
theorem m12 : Tryz.pinned.checked.prog.make = some Rows.fnRightParenOneParenLineMonotoneRow.make := by kernel_rfl
theorem hvl1 : Rows.fnRightParenOneParenLineMonotoneRow.veiled = (Tryz.f3.params.toList ++ (OpenSpec.ofChange Rows.fnRightParenOneParenLineMonotoneSpec).bare.plain.varTypes Tryz.pinned.checked.prog ++ Tryz.f3.resultTypes.toList).any (Tryz.pinned.checked.prog.veiledRec ·) := by kernel_rfl
theorem hvl2 : Rows.fnRightParenOneParenLineMonotoneRow.veiledFits Tryz.pinned.checked.prog Tryz.f3.params.toList (Tryz.f3.params.toList ++ (OpenSpec.ofChange Rows.fnRightParenOneParenLineMonotoneSpec).bare.plain.varTypes Tryz.pinned.checked.prog ++ Tryz.f3.resultTypes.toList) = true := by kernel_rfl
end CR
end Go.Proofs.YtgcoopjkjeoflaaGreatFmtR
