/-
  n010_67.FnPrintEmptyFileTable: the card, out of what the walk says.
-/
import Derived.Test.YtdfgcopelfmcmaaGreatFmtPTK
namespace Go.Proofs.YtdfgcopelfmcmaaGreatFmt
open Go.ChangeShapes Go.WideShapes Go.ChangeAt Go.RowKit Go.Kit
open Go.Extern.Stop Go.Stop Go.Extern

def PTCore : Prop := ∀ (keep mi si fn : Bool) (W : World), Calls Tryz.prog 3 #[.bool keep, .bool mi, .bool si, .bool fn] W fun e W' => e = .returned (.bool true) ∧ Below W.heap.size W W'

set_option maxRecDepth 1000000 in
set_option maxHeartbeats 1600000 in
theorem pt_lifted (core : PTCore) (os : Os) (started : os.Started) (H : Type) (enc : TypeId × Value → H) :
    ReturnsInTold none {} Tryz.checked os 3 .any Input.okWide ((OpenSpec.ofChange Rows.fnPrintEmptyFileTableSpec).preRow enc Tryz.prog Tryz.f3 [] false Rows.fnPrintEmptyFileTableRow.laid)
      (fun F => ((OpenSpec.ofChange Rows.fnPrintEmptyFileTableSpec).at F.told).post enc Tryz.prog Tryz.f3 false Rows.fnPrintEmptyFileTableRow.fresh Rows.fnPrintEmptyFileTableRow.handsOn false) (aloneAtReturn Tryz.prog) nothingAlways := by
  refine returnsInTold_of_row (C := Tryz.checked) (s := OpenSpec.ofChange Rows.fnPrintEmptyFileTableSpec) (by kernel_rfl) ownK started (by kernel_rfl) Tryz.func3
    (OpenSpec.witness_stopped_atRef (enc := enc) (C := Tryz.checked) false (laidWorld os) #[.bool false, .bool false, .bool false, .bool false] rfl (by kernel_rfl) (by kernel_rfl) (by kernel_rfl)
      (OpenSpec.preRow_of_B rfl 8 (by kernel_rfl) (by kernel_rfl) (laid_met os _))) ?_
  intro F W base0 args ds gs before _ hF hval0 hW _ _ _ hL _
  have hval : ∀ (j : Nat) t v, Tryz.f3.params[j]? = some t → args[j]? = some v → Value.okWide Tryz.prog W .any base0 t v := hval0
  have hW' := hW
  obtain ⟨p, q, hA0, hV0, rfl, hfz, hnd⟩ := hW
  have hA : DataW.TrodAll enc Tryz.prog W 0 (fun _ => true) true Tryz.f3.params.toList args.toList ds p := hA0
  rw [Tryz.params3] at hA hval
  obtain ⟨v0, v1, v2, v3, d0, d1, d2, d3, p0, p1, p2, p3, rfl, rfl, rfl, h0, h1, h2, h3⟩ := trodAll_four hA
  obtain ⟨b0, rfl, rfl, rfl⟩ := open_bool Tryz.underlying4 (hval 0 4 v0 rfl rfl) h0
  obtain ⟨b1, rfl, rfl, rfl⟩ := open_bool Tryz.underlying4 (hval 1 4 v1 rfl rfl) h1
  obtain ⟨b2, rfl, rfl, rfl⟩ := open_bool Tryz.underlying4 (hval 2 4 v2 rfl rfl) h2
  obtain ⟨b3, rfl, rfl, rfl⟩ := open_bool Tryz.underlying4 (hval 3 4 v3 rfl rfl) h3
  obtain ⟨_, _, _, _, g1, _, hgs, _⟩ := trodVars_one hV0
  refine (core b0 b1 b2 b3 W).mono fun e W' ⟨he, hB⟩ => ?_
  subst he
  refine ⟨_, rfl, truth_post laidOutK (by kernel_rfl) (by kernel_rfl) (tb := 4) (by kernel_rfl) Tryz.underlying4 hW' ?_ hB _⟩
  rw [hgs]
  rfl

set_option maxRecDepth 1000000 in
theorem pt_holds (core : PTCore) : Rows.FnPrintEmptyFileTableToldSaid :=
  Claim7.holds_of_told_tied_any_at .later 3 Tryz.f3 "fmt.errorf, its operands' methods called" ["fmt.Sprintf, its operands' methods called"] [] _ _ _ _ _ PT.hw rfl rfl rfl laidOutK mapsRowedK rfl ⟨rfl, rfl, rfl, rfl, rfl, rfl, rfl⟩ rfl rfl PT.htie PT.hfn Tryz.func3 PT.hr
    PT.hinst PT.hwrap PT.hstops rfl stopKnobsK.symm envWordedK
    PT.hin PT.hop PT.hrc PT.hvs PT.hmp PT.hif PT.hmo PT.hlo PT.hwk rfl PT.hvars rfl rfl
    rfl rfl
    rfl PT.hmain looksK PT.hfun (by decide) PT.hgoes fnPrintEmptyFileTable_row_tie
    (OpenClaim.moreEntering_of mayEnterK PT.m4 stopsHeardK PT.m6 PT.m7 PT.m8 PT.m9 PT.m10 PT.m11 PT.m12)
    ⟨_, WideRow.started_initial, quietK _⟩
    (fun os started _ H enc _ => pt_lifted core os started H enc) ⟨PT.hvl1, PT.hvl2⟩
end Go.Proofs.YtdfgcopelfmcmaaGreatFmt
