/-
  n010_73.FnUnquotedWordUndoesEscaping: the card, out of what the walk says.
-/
import Derived.Test.YtabpbmmkkolpbaaGreatFmtU73K
namespace Go.Proofs.YtabpbmmkkolpbaaGreatFmt
open Go.ChangeShapes Go.WideShapes Go.ChangeAt Go.RowKit Go.Kit
open Go.ChangeMaps (open_string)
open Go.Extern.Stop Go.Stop Go.Extern

def U73Core : Prop := ∀ (s : ByteArray) (W : World), s.size ≤ maxLen → Calls Tryz.prog 7 #[.string s] W fun e W' => e = .returned (.bool true) ∧ Below W.heap.size W W'

set_option maxRecDepth 1000000 in
set_option maxHeartbeats 1600000 in
theorem u73_lifted (core : U73Core) (os : Os) (started : os.Started) (H : Type) (enc : TypeId × Value → H) :
    ReturnsInTold none {} Tryz.checked os 7 .any Input.okWide ((OpenSpec.ofChange Rows.fnUnquotedWordUndoesEscapingSpec).preRow enc Tryz.prog Tryz.f7 [] false Rows.fnUnquotedWordUndoesEscapingRow.laid)
      (fun F => ((OpenSpec.ofChange Rows.fnUnquotedWordUndoesEscapingSpec).at F.told).post enc Tryz.prog Tryz.f7 false Rows.fnUnquotedWordUndoesEscapingRow.fresh Rows.fnUnquotedWordUndoesEscapingRow.handsOn false) (aloneAtReturn Tryz.prog) nothingAlways := by
  refine returnsInTold_of_row (C := Tryz.checked) (s := OpenSpec.ofChange Rows.fnUnquotedWordUndoesEscapingSpec) (by kernel_rfl) ownK started (by kernel_rfl) Tryz.func7
    (OpenSpec.witness_stopped_atRef (enc := enc) (C := Tryz.checked) false (laidWorld os) #[.string ⟨#[]⟩] rfl (by kernel_rfl) (by kernel_rfl) (by kernel_rfl)
      (OpenSpec.preRow_of_B rfl 8 (by kernel_rfl) (by kernel_rfl) (laid_met os _))) ?_
  intro F W base0 args ds gs before _ hF hval0 hW _ _ _ hL _
  have hval : ∀ (j : Nat) t v, Tryz.f7.params[j]? = some t → args[j]? = some v → Value.okWide Tryz.prog W .any base0 t v := hval0
  have hW' := hW
  obtain ⟨p, q, hA0, hV0, rfl, hfz, hnd⟩ := hW
  have hA : DataW.TrodAll enc Tryz.prog W 0 (fun _ => true) true Tryz.f7.params.toList args.toList ds p := hA0
  rw [Tryz.params7] at hA hval
  obtain ⟨v0, d0, rfl, rfl, h0⟩ := trodAll_one hA
  obtain ⟨s, rfl, rfl, rfl, hs⟩ := open_string Tryz.underlying9 (hval 0 9 v0 rfl rfl) h0
  obtain ⟨_, _, _, _, g1, _, hgs, _⟩ := trodVars_one hV0
  refine (core s W hs).mono fun e W' ⟨he, hB⟩ => ?_
  subst he
  refine ⟨_, rfl, truth_post laidOutK (by kernel_rfl) (by kernel_rfl) (tb := 4) (by kernel_rfl) Tryz.underlying4 hW' ?_ hB _⟩
  rw [hgs]
  rfl

set_option maxRecDepth 1000000 in
theorem u73_holds (core : U73Core) : Rows.FnUnquotedWordUndoesEscapingToldSaid :=
  Claim7.holds_of_told_tied_any_at .later 7 Tryz.f7 "fmt.errorf, its operands' methods called" ["fmt.Sprintf, its operands' methods called"] [] _ _ _ _ _ U73.hw rfl rfl rfl laidOutK mapsRowedK rfl ⟨rfl, rfl, rfl, rfl, rfl, rfl, rfl⟩ rfl rfl U73.htie U73.hfn Tryz.func7 U73.hr
    U73.hinst U73.hwrap U73.hstops rfl stopKnobsK.symm envWordedK
    U73.hin U73.hop U73.hrc U73.hvs U73.hmp U73.hif U73.hmo U73.hlo U73.hwk rfl U73.hvars rfl rfl
    rfl rfl
    rfl U73.hmain looksK U73.hfun (by decide) U73.hgoes fnUnquotedWordUndoesEscaping_row_tie
    (OpenClaim.moreEntering_of mayEnterK U73.m4 stopsHeardK U73.m6 U73.m7 U73.m8 U73.m9 U73.m10 U73.m11 U73.m12)
    ⟨_, WideRow.started_initial, quietK _⟩
    (fun os started _ H enc _ => u73_lifted core os started H enc) ⟨U73.hvl1, U73.hvl2⟩
end Go.Proofs.YtabpbmmkkolpbaaGreatFmt
