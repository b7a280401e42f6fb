/-
  n010_67.FnFunctionNextLineScript: the card, out of what the walk says.
-/
import Derived.Test.YtdfgcopelfmcmaaGreatFmtPFK
import Derived.Test.YtdfgcopelfmcmaaGreatFmtBools
namespace Go.Proofs.YtdfgcopelfmcmaaGreatFmt
open Go.ChangeShapes Go.WideShapes Go.ChangeAt Go.RowKit Go.Kit
open Go.Extern.Stop Go.Stop Go.Extern

def PFCore : Prop := ∀ (b0 b1 b2 b3 : Bool) (v : Value) (L : List Bool) (W : World), BoolsRd W v L → L.length ≤ maxLen → Calls Tryz.prog 4 #[.bool b0, .bool b1, .bool b2, .bool b3, v] W fun e W' => e = .returned (.bool true) ∧ Below W.heap.size W W'

set_option maxRecDepth 1000000 in
set_option maxHeartbeats 1600000 in
theorem pf_lifted (core : PFCore) (os : Os) (started : os.Started) (H : Type) (enc : TypeId × Value → H) :
    ReturnsInTold none {} Tryz.checked os 4 .any Input.okWide ((OpenSpec.ofChange Rows.fnFunctionNextLineScriptSpec).preRow enc Tryz.prog Tryz.f4 [] false Rows.fnFunctionNextLineScriptRow.laid)
      (fun F => ((OpenSpec.ofChange Rows.fnFunctionNextLineScriptSpec).at F.told).post enc Tryz.prog Tryz.f4 false Rows.fnFunctionNextLineScriptRow.fresh Rows.fnFunctionNextLineScriptRow.handsOn false) (aloneAtReturn Tryz.prog) nothingAlways := by
  refine returnsInTold_of_row (C := Tryz.checked) (s := OpenSpec.ofChange Rows.fnFunctionNextLineScriptSpec) (by kernel_rfl) ownK started (by kernel_rfl) Tryz.func4
    (OpenSpec.witness_stopped_atRef (enc := enc) (C := Tryz.checked) false (laidWorld os) #[.bool false, .bool false, .bool false, .bool false, .slice none 0 0] rfl (by kernel_rfl) (by kernel_rfl) (by kernel_rfl)
      (OpenSpec.preRow_of_B rfl 8 (by kernel_rfl) (by kernel_rfl) (laid_met os _))) ?_
  intro F W base0 args ds gs before _ hF hval0 hW _ _ _ hL _
  have hval : ∀ (j : Nat) t v, Tryz.f4.params[j]? = some t → args[j]? = some v → Value.okWide Tryz.prog W .any base0 t v := hval0
  have hW' := hW
  obtain ⟨p, q, hA0, hV0, rfl, hfz, hnd⟩ := hW
  have hA : DataW.TrodAll enc Tryz.prog W 0 (fun _ => true) true Tryz.f4.params.toList args.toList ds p := hA0
  rw [Tryz.params4] at hA hval
  obtain ⟨v0, v1, v2, v3, v4, d0, d1, d2, d3, d4, p0, p1, p2, p3, p4, rfl, rfl, rfl, h0, h1, h2, h3, h4⟩ := trodAll_5 hA
  obtain ⟨b0, rfl, rfl, rfl⟩ := open_bool Tryz.underlying4 (hval 0 4 v0 rfl rfl) h0
  obtain ⟨b1, rfl, rfl, rfl⟩ := open_bool Tryz.underlying4 (hval 1 4 v1 rfl rfl) h1
  obtain ⟨b2, rfl, rfl, rfl⟩ := open_bool Tryz.underlying4 (hval 2 4 v2 rfl rfl) h2
  obtain ⟨b3, rfl, rfl, rfl⟩ := open_bool Tryz.underlying4 (hval 3 4 v3 rfl rfl) h3
  obtain ⟨vo, vn, vc, rfl⟩ := okWide_slice Tryz.underlying26 (hval 4 26 v4 rfl rfl)
  obtain ⟨fuel, hfu⟩ := h4
  obtain ⟨L, hLr, hLm⟩ := bools_of_trod hfu
  obtain ⟨_, _, _, _, g1, _, hgs, _⟩ := trodVars_one hV0
  refine (core b0 b1 b2 b3 _ L W hLr hLm).mono fun e W' ⟨he, hB⟩ => ?_
  subst he
  refine ⟨_, rfl, truth_post laidOutK (by kernel_rfl) (by kernel_rfl) (tb := 4) (by kernel_rfl) Tryz.underlying4 hW' ?_ hB _⟩
  rw [hgs]
  rfl

set_option maxRecDepth 1000000 in
theorem pf_holds (core : PFCore) : Rows.FnFunctionNextLineScriptToldSaid :=
  Claim7.holds_of_told_tied_any_at .later 4 Tryz.f4 "fmt.errorf, its operands' methods called" ["fmt.Sprintf, its operands' methods called"] [] _ _ _ _ _ PF.hw rfl rfl rfl laidOutK mapsRowedK rfl ⟨rfl, rfl, rfl, rfl, rfl, rfl, rfl⟩ rfl rfl PF.htie PF.hfn Tryz.func4 PF.hr
    PF.hinst PF.hwrap PF.hstops rfl stopKnobsK.symm envWordedK
    PF.hin PF.hop PF.hrc PF.hvs PF.hmp PF.hif PF.hmo PF.hlo PF.hwk rfl PF.hvars rfl rfl
    rfl rfl
    rfl PF.hmain looksK PF.hfun (by decide) PF.hgoes fnFunctionNextLineScript_row_tie
    (OpenClaim.moreEntering_of mayEnterK PF.m4 stopsHeardK PF.m6 PF.m7 PF.m8 PF.m9 PF.m10 PF.m11 PF.m12)
    ⟨_, WideRow.started_initial, quietK _⟩
    (fun os started _ H enc _ => pf_lifted core os started H enc) ⟨PF.hvl1, PF.hvl2⟩
end Go.Proofs.YtdfgcopelfmcmaaGreatFmt
