/-
  n010_43.FnSemiOrNewlSingleLine: the row's closed facts, each by itself.
-/
import Derived.Test.YtmdkpihlhdjjaaaGreatFmtKLaidX
import Derived.Test.YtmdkpihlhdjjaaaGreatFmtCards
namespace Go.Proofs.YtmdkpihlhdjjaaaGreatFmt
open Go.Extern.Stop Go.Stop Go.Extern
namespace CO
theorem hw : Rows.fnSemiOrNewlSingleLineRow.wfByText (OpenSpec.ofChange Rows.fnSemiOrNewlSingleLineSpec) = true := by kernel_rfl
theorem htie : namedTie Tryz.pinned.checked.prog Rows.fnSemiOrNewlSingleLineRow.namedList (OpenSpec.ofChange Rows.fnSemiOrNewlSingleLineSpec).vars = true := by kernel_rfl
theorem hfn : Tryz.pinned.checked.prog.funcNamed Rows.fnSemiOrNewlSingleLineRow.func = some 6 := by kernel_rfl
theorem hr : (Tryz.f6.params.toList.all fun t => Tryz.pinned.checked.prog.readableRec t) = true := by kernel_rfl
theorem hinst : Tryz.f6.isInstance Tryz.pinned.checked.prog Rows.fnSemiOrNewlSingleLineRow.origin Rows.fnSemiOrNewlSingleLineRow.targs := of_decide_eq_true (by kernel_rfl)
theorem hwrap : Tryz.f6.isWrapper Tryz.pinned.checked.prog Rows.fnSemiOrNewlSingleLineRow.wrapper Rows.fnSemiOrNewlSingleLineRow.mainSum := of_decide_eq_true (by kernel_rfl)
theorem hstops : Rows.fnSemiOrNewlSingleLineRow.stops = Tryz.pinned.checked.prog.stops := stopsK.symm
theorem hin : Rows.fnSemiOrNewlSingleLineRow.inPlace = Tryz.pinned.checked.prog.inPlace 6 := by kernel_rfl
theorem hop : Rows.fnSemiOrNewlSingleLineRow.unfollowed = Tryz.pinned.checked.prog.unfollowed 6 := by kernel_rfl
theorem hrc : Rows.fnSemiOrNewlSingleLineRow.recurses = Tryz.pinned.checked.prog.recurses 6 := by kernel_rfl
theorem hvs : Rows.fnSemiOrNewlSingleLineRow.named = Tryz.pinned.checked.prog.varsNamed 6 := by kernel_rfl
theorem hmp : Rows.fnSemiOrNewlSingleLineRow.maps = (Tryz.f6.params.toList ++ (OpenSpec.ofChange Rows.fnSemiOrNewlSingleLineSpec).bare.plain.varTypes Tryz.pinned.checked.prog).any (Tryz.pinned.checked.prog.mapsRec ·) := by kernel_rfl
theorem hif : Rows.fnSemiOrNewlSingleLineRow.ifaces = (Tryz.f6.params.toList ++ (OpenSpec.ofChange Rows.fnSemiOrNewlSingleLineSpec).bare.plain.varTypes Tryz.pinned.checked.prog).any (Tryz.pinned.checked.prog.ifacesRec ·) := by kernel_rfl
theorem hmo : Rows.fnSemiOrNewlSingleLineRow.mapsOut = Tryz.pinned.checked.prog.mapsAmong Tryz.f6.resultTypes.toList := by kernel_rfl
theorem hlo : Rows.fnSemiOrNewlSingleLineRow.loops = (Tryz.f6.params.toList ++ (OpenSpec.ofChange Rows.fnSemiOrNewlSingleLineSpec).bare.plain.varTypes Tryz.pinned.checked.prog).any (Tryz.pinned.checked.prog.loopsFrom ·) := by kernel_rfl
theorem hwk : Rows.fnSemiOrNewlSingleLineRow.wideKeys = (Tryz.f6.params.toList ++ (OpenSpec.ofChange Rows.fnSemiOrNewlSingleLineSpec).bare.plain.varTypes Tryz.pinned.checked.prog ++ Tryz.f6.resultTypes.toList).any (Tryz.pinned.checked.prog.wideKeysFrom ·) := by kernel_rfl
theorem hvars : ((OpenSpec.ofChange Rows.fnSemiOrNewlSingleLineSpec).vars.all fun n => Tryz.pinned.checked.prog.varReadable n) = true := by kernel_rfl
theorem hmain : Tryz.pinned.checked.prog.mainIs = some (Rows.fnSemiOrNewlSingleLineCard.stood.harness.1, Rows.fnSemiOrNewlSingleLineCard.stood.harness.2.toList) := by kernel_rfl
theorem hfun : (Tryz.f6.params.toList.all fun t => !Tryz.pinned.checked.prog.wantsStandIn t) = true := by kernel_rfl
theorem hgoes : false = Rows.fnSemiOrNewlSingleLineRow.goesBy Tryz.pinned.checked.prog := by kernel_rfl
theorem m4 : (Tryz.f6.resultTypes.toList.all fun t => Tryz.pinned.checked.prog.readableRec t && decide (t < Tryz.pinned.checked.prog.types.size)) = true := by kernel_rfl
theorem m6 : Rows.fnSemiOrNewlSingleLineRow.ifacesOut = Tryz.f6.resultTypes.toList.any (Tryz.pinned.checked.prog.ifacesRec ·) := by kernel_rfl
theorem m7 : Rows.fnSemiOrNewlSingleLineRow.loopsOut = Tryz.f6.resultTypes.toList.any (Tryz.pinned.checked.prog.loopsFrom ·) := by kernel_rfl
theorem m8 : Rows.fnSemiOrNewlSingleLineRow.kinds = (if Rows.fnSemiOrNewlSingleLineRow.domain.isEmpty then [] else Tryz.f6.params.toList.map fun t => match Tryz.pinned.checked.prog.underlying t with | some (.int k) => some k | _ => none) := by kernel_rfl
theorem m9 : Rows.fnSemiOrNewlSingleLineRow.pinned = Rows.fnSemiOrNewlSingleLineRow.pinnedBy := by kernel_rfl
theorem m10 : Rows.fnSemiOrNewlSingleLineRow.plainKeys = Tryz.pinned.checked.prog.plainKeys := by kernel_rfl
theorem m11 : Rows.fnSemiOrNewlSingleLineRow.lifted = Tryz.pinned.checked.prog.liftsFinal := by kernel_rfl
theorem m12 : Tryz.pinned.checked.prog.make = some Rows.fnSemiOrNewlSingleLineRow.make := by kernel_rfl
theorem hvl1 : Rows.fnSemiOrNewlSingleLineRow.veiled = (Tryz.f6.params.toList ++ (OpenSpec.ofChange Rows.fnSemiOrNewlSingleLineSpec).bare.plain.varTypes Tryz.pinned.checked.prog ++ Tryz.f6.resultTypes.toList).any (Tryz.pinned.checked.prog.veiledRec ·) := by kernel_rfl
theorem hvl2 : Rows.fnSemiOrNewlSingleLineRow.veiledFits Tryz.pinned.checked.prog Tryz.f6.params.toList (Tryz.f6.params.toList ++ (OpenSpec.ofChange Rows.fnSemiOrNewlSingleLineSpec).bare.plain.varTypes Tryz.pinned.checked.prog ++ Tryz.f6.resultTypes.toList) = true := by kernel_rfl
end CO
end Go.Proofs.YtmdkpihlhdjjaaaGreatFmt
