/-
  n010_73.FnUnquotedWordUndoesEscaping: the row's closed facts, each by itself.
-/
import Derived.Test.YtabpbmmkkolpbaaGreatFmtCard
import Derived.Test.YtabpbmmkkolpbaaGreatFmtCards
namespace Go.Proofs.YtabpbmmkkolpbaaGreatFmt
open Go.Extern.Stop Go.Stop Go.Extern
namespace U73
theorem hw : Rows.fnUnquotedWordUndoesEscapingRow.wfByText (OpenSpec.ofChange Rows.fnUnquotedWordUndoesEscapingSpec) = true := by kernel_rfl
theorem htie : namedTie Tryz.pinned.checked.prog Rows.fnUnquotedWordUndoesEscapingRow.namedList (OpenSpec.ofChange Rows.fnUnquotedWordUndoesEscapingSpec).vars = true := by kernel_rfl
theorem hfn : Tryz.pinned.checked.prog.funcNamed Rows.fnUnquotedWordUndoesEscapingRow.func = some 7 := by kernel_rfl
theorem hr : (Tryz.f7.params.toList.all fun t => Tryz.pinned.checked.prog.readableRec t) = true := by kernel_rfl
theorem hinst : Tryz.f7.isInstance Tryz.pinned.checked.prog Rows.fnUnquotedWordUndoesEscapingRow.origin Rows.fnUnquotedWordUndoesEscapingRow.targs := of_decide_eq_true (by kernel_rfl)
theorem hwrap : Tryz.f7.isWrapper Tryz.pinned.checked.prog Rows.fnUnquotedWordUndoesEscapingRow.wrapper Rows.fnUnquotedWordUndoesEscapingRow.mainSum := of_decide_eq_true (by kernel_rfl)
theorem hstops : Rows.fnUnquotedWordUndoesEscapingRow.stops = Tryz.pinned.checked.prog.stops := stopsK.symm
theorem hin : Rows.fnUnquotedWordUndoesEscapingRow.inPlace = Tryz.pinned.checked.prog.inPlace 7 := by kernel_rfl
theorem hop : Rows.fnUnquotedWordUndoesEscapingRow.unfollowed = Tryz.pinned.checked.prog.unfollowed 7 := by kernel_rfl
theorem hrc : Rows.fnUnquotedWordUndoesEscapingRow.recurses = Tryz.pinned.checked.prog.recurses 7 := by kernel_rfl
theorem hvs : Rows.fnUnquotedWordUndoesEscapingRow.named = Tryz.pinned.checked.prog.varsNamed 7 := by kernel_rfl
theorem hmp : Rows.fnUnquotedWordUndoesEscapingRow.maps = (Tryz.f7.params.toList ++ (OpenSpec.ofChange Rows.fnUnquotedWordUndoesEscapingSpec).bare.plain.varTypes Tryz.pinned.checked.prog).any (Tryz.pinned.checked.prog.mapsRec ·) := by kernel_rfl
theorem hif : Rows.fnUnquotedWordUndoesEscapingRow.ifaces = (Tryz.f7.params.toList ++ (OpenSpec.ofChange Rows.fnUnquotedWordUndoesEscapingSpec).bare.plain.varTypes Tryz.pinned.checked.prog).any (Tryz.pinned.checked.prog.ifacesRec ·) := by kernel_rfl
theorem hmo : Rows.fnUnquotedWordUndoesEscapingRow.mapsOut = Tryz.pinned.checked.prog.mapsAmong Tryz.f7.resultTypes.toList := by kernel_rfl
theorem hlo : Rows.fnUnquotedWordUndoesEscapingRow.loops = (Tryz.f7.params.toList ++ (OpenSpec.ofChange Rows.fnUnquotedWordUndoesEscapingSpec).bare.plain.varTypes Tryz.pinned.checked.prog).any (Tryz.pinned.checked.prog.loopsFrom ·) := by kernel_rfl
theorem hwk : Rows.fnUnquotedWordUndoesEscapingRow.wideKeys = (Tryz.f7.params.toList ++ (OpenSpec.ofChange Rows.fnUnquotedWordUndoesEscapingSpec).bare.plain.varTypes Tryz.pinned.checked.prog ++ Tryz.f7.resultTypes.toList).any (Tryz.pinned.checked.prog.wideKeysFrom ·) := by kernel_rfl
theorem hvars : ((OpenSpec.ofChange Rows.fnUnquotedWordUndoesEscapingSpec).vars.all fun n => Tryz.pinned.checked.prog.varReadable n) = true := by kernel_rfl
theorem hmain : Tryz.pinned.checked.prog.mainIs = some (Rows.fnUnquotedWordUndoesEscapingCard.stood.harness.1, Rows.fnUnquotedWordUndoesEscapingCard.stood.harness.2.toList) := by kernel_rfl
theorem hfun : (Tryz.f7.params.toList.all fun t => !Tryz.pinned.checked.prog.wantsStandIn t) = true := by kernel_rfl
theorem hgoes : false = Rows.fnUnquotedWordUndoesEscapingRow.goesBy Tryz.pinned.checked.prog := by kernel_rfl
theorem m4 : (Tryz.f7.resultTypes.toList.all fun t => Tryz.pinned.checked.prog.readableRec t && decide (t < Tryz.pinned.checked.prog.types.size)) = true := by kernel_rfl
theorem m6 : Rows.fnUnquotedWordUndoesEscapingRow.ifacesOut = Tryz.f7.resultTypes.toList.any (Tryz.pinned.checked.prog.ifacesRec ·) := by kernel_rfl
theorem m7 : Rows.fnUnquotedWordUndoesEscapingRow.loopsOut = Tryz.f7.resultTypes.toList.any (Tryz.pinned.checked.prog.loopsFrom ·) := by kernel_rfl
theorem m8 : Rows.fnUnquotedWordUndoesEscapingRow.kinds = (if Rows.fnUnquotedWordUndoesEscapingRow.domain.isEmpty then [] else Tryz.f7.params.toList.map fun t => match Tryz.pinned.checked.prog.underlying t with | some (.int k) => some k | _ => none) := by kernel_rfl
theorem m9 : Rows.fnUnquotedWordUndoesEscapingRow.pinned = Rows.fnUnquotedWordUndoesEscapingRow.pinnedBy := by kernel_rfl
theorem m10 : Rows.fnUnquotedWordUndoesEscapingRow.plainKeys = Tryz.pinned.checked.prog.plainKeys := by kernel_rfl
theorem m11 : Rows.fnUnquotedWordUndoesEscapingRow.lifted = Tryz.pinned.checked.prog.liftsFinal := by kernel_rfl
theorem m12 : Tryz.pinned.checked.prog.make = some Rows.fnUnquotedWordUndoesEscapingRow.make := by kernel_rfl
theorem hvl1 : Rows.fnUnquotedWordUndoesEscapingRow.veiled = (Tryz.f7.params.toList ++ (OpenSpec.ofChange Rows.fnUnquotedWordUndoesEscapingSpec).bare.plain.varTypes Tryz.pinned.checked.prog ++ Tryz.f7.resultTypes.toList).any (Tryz.pinned.checked.prog.veiledRec ·) := by kernel_rfl
theorem hvl2 : Rows.fnUnquotedWordUndoesEscapingRow.veiledFits Tryz.pinned.checked.prog Tryz.f7.params.toList (Tryz.f7.params.toList ++ (OpenSpec.ofChange Rows.fnUnquotedWordUndoesEscapingSpec).bare.plain.varTypes Tryz.pinned.checked.prog ++ Tryz.f7.resultTypes.toList) = true := by kernel_rfl
end U73
end Go.Proofs.YtabpbmmkkolpbaaGreatFmt
