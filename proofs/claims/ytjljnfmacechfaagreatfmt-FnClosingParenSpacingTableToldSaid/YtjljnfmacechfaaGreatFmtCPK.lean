/-
  n010_157.FnClosingParenSpacingTable: the row's closed facts, each by itself.
-/
import Derived.Test.YtjljnfmacechfaaGreatFmtCard
import Derived.Test.YtjljnfmacechfaaGreatFmtCards
namespace Go.Proofs.YtjljnfmacechfaaGreatFmt
open Go.Extern.Stop Go.Stop Go.Extern
namespace CP
theorem hw : Rows.fnClosingParenSpacingTableRow.wfByText (OpenSpec.ofChange Rows.fnClosingParenSpacingTableSpec) = true := by kernel_rfl
theorem htie : namedTie Tryz.pinned.checked.prog Rows.fnClosingParenSpacingTableRow.namedList (OpenSpec.ofChange Rows.fnClosingParenSpacingTableSpec).vars = true := by kernel_rfl
theorem hfn : Tryz.pinned.checked.prog.funcNamed Rows.fnClosingParenSpacingTableRow.func = some 3 := by kernel_rfl
theorem hr : (Tryz.f3.params.toList.all fun t => Tryz.pinned.checked.prog.readableRec t) = true := by kernel_rfl
theorem hinst : Tryz.f3.isInstance Tryz.pinned.checked.prog Rows.fnClosingParenSpacingTableRow.origin Rows.fnClosingParenSpacingTableRow.targs := of_decide_eq_true (by kernel_rfl)
theorem hwrap : Tryz.f3.isWrapper Tryz.pinned.checked.prog Rows.fnClosingParenSpacingTableRow.wrapper Rows.fnClosingParenSpacingTableRow.mainSum := of_decide_eq_true (by kernel_rfl)
theorem hstops : Rows.fnClosingParenSpacingTableRow.stops = Tryz.pinned.checked.prog.stops := stopsK.symm
theorem hin : Rows.fnClosingParenSpacingTableRow.inPlace = Tryz.pinned.checked.prog.inPlace 3 := by kernel_rfl
theorem hop : Rows.fnClosingParenSpacingTableRow.unfollowed = Tryz.pinned.checked.prog.unfollowed 3 := by kernel_rfl
theorem hrc : Rows.fnClosingParenSpacingTableRow.recurses = Tryz.pinned.checked.prog.recurses 3 := by kernel_rfl
theorem hvs : Rows.fnClosingParenSpacingTableRow.named = Tryz.pinned.checked.prog.varsNamed 3 := by kernel_rfl
theorem hmp : Rows.fnClosingParenSpacingTableRow.maps = (Tryz.f3.params.toList ++ (OpenSpec.ofChange Rows.fnClosingParenSpacingTableSpec).bare.plain.varTypes Tryz.pinned.checked.prog).any (Tryz.pinned.checked.prog.mapsRec ·) := by kernel_rfl
theorem hif : Rows.fnClosingParenSpacingTableRow.ifaces = (Tryz.f3.params.toList ++ (OpenSpec.ofChange Rows.fnClosingParenSpacingTableSpec).bare.plain.varTypes Tryz.pinned.checked.prog).any (Tryz.pinned.checked.prog.ifacesRec ·) := by kernel_rfl
theorem hmo : Rows.fnClosingParenSpacingTableRow.mapsOut = Tryz.pinned.checked.prog.mapsAmong Tryz.f3.resultTypes.toList := by kernel_rfl
theorem hlo : Rows.fnClosingParenSpacingTableRow.loops = (Tryz.f3.params.toList ++ (OpenSpec.ofChange Rows.fnClosingParenSpacingTableSpec).bare.plain.varTypes Tryz.pinned.checked.prog).any (Tryz.pinned.checked.prog.loopsFrom ·) := by kernel_rfl
theorem hwk : Rows.fnClosingParenSpacingTableRow.wideKeys = (Tryz.f3.params.toList ++ (OpenSpec.ofChange Rows.fnClosingParenSpacingTableSpec).bare.plain.varTypes Tryz.pinned.checked.prog ++ Tryz.f3.resultTypes.toList).any (Tryz.pinned.checked.prog.wideKeysFrom ·) := by kernel_rfl
theorem hvars : ((OpenSpec.ofChange Rows.fnClosingParenSpacingTableSpec).vars.all fun n => Tryz.pinned.checked.prog.varReadable n) = true := by kernel_rfl
theorem hmain : Tryz.pinned.checked.prog.mainIs = some (Rows.fnClosingParenSpacingTableCard.stood.harness.1, Rows.fnClosingParenSpacingTableCard.stood.harness.2.toList) := by kernel_rfl
theorem hfun : (Tryz.f3.params.toList.all fun t => !Tryz.pinned.checked.prog.wantsStandIn t) = true := by kernel_rfl
theorem hgoes : false = Rows.fnClosingParenSpacingTableRow.goesBy Tryz.pinned.checked.prog := by kernel_rfl
theorem m4 : (Tryz.f3.resultTypes.toList.all fun t => Tryz.pinned.checked.prog.readableRec t && decide (t < Tryz.pinned.checked.prog.types.size)) = true := by kernel_rfl
theorem m6 : Rows.fnClosingParenSpacingTableRow.ifacesOut = Tryz.f3.resultTypes.toList.any (Tryz.pinned.checked.prog.ifacesRec ·) := by kernel_rfl
theorem m7 : Rows.fnClosingParenSpacingTableRow.loopsOut = Tryz.f3.resultTypes.toList.any (Tryz.pinned.checked.prog.loopsFrom ·) := by kernel_rfl
theorem m8 : Rows.fnClosingParenSpacingTableRow.kinds = (if Rows.fnClosingParenSpacingTableRow.domain.isEmpty then [] else Tryz.f3.params.toList.map fun t => match Tryz.pinned.checked.prog.underlying t with | some (.int k) => some k | _ => none) := by kernel_rfl
theorem m9 : Rows.fnClosingParenSpacingTableRow.pinned = Rows.fnClosingParenSpacingTableRow.pinnedBy := by kernel_rfl
theorem m10 : Rows.fnClosingParenSpacingTableRow.plainKeys = Tryz.pinned.checked.prog.plainKeys := by kernel_rfl
theorem m11 : Rows.fnClosingParenSpacingTableRow.lifted = Tryz.pinned.checked.prog.liftsFinal := by kernel_rfl
theorem m12 : Tryz.pinned.checked.prog.make = some Rows.fnClosingParenSpacingTableRow.make := by kernel_rfl
theorem hvl1 : Rows.fnClosingParenSpacingTableRow.veiled = (Tryz.f3.params.toList ++ (OpenSpec.ofChange Rows.fnClosingParenSpacingTableSpec).bare.plain.varTypes Tryz.pinned.checked.prog ++ Tryz.f3.resultTypes.toList).any (Tryz.pinned.checked.prog.veiledRec ·) := by kernel_rfl
theorem hvl2 : Rows.fnClosingParenSpacingTableRow.veiledFits Tryz.pinned.checked.prog Tryz.f3.params.toList (Tryz.f3.params.toList ++ (OpenSpec.ofChange Rows.fnClosingParenSpacingTableSpec).bare.plain.varTypes Tryz.pinned.checked.prog ++ Tryz.f3.resultTypes.toList) = true := by kernel_rfl
end CP
end Go.Proofs.YtjljnfmacechfaaGreatFmt
