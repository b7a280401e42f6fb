/-
  n010_67.FnSingleLineScript: the card, out of what the walk says.
-/
import Derived.Test.YtdfgcopelfmcmaaGreatFmtPLK
import Derived.Test.YtdfgcopelfmcmaaGreatFmtBools
namespace Go.Proofs.YtdfgcopelfmcmaaGreatFmt
open Go.ChangeShapes Go.WideShapes Go.ChangeAt Go.RowKit Go.Kit
open Go.Extern.Stop Go.Stop Go.Extern

def PLCore : Prop := ∀ (b0 b1 b2 b3 : Bool) (v : Value) (L : List Bool) (W : World), BoolsRd W v L → L.length ≤ maxLen → Calls Tryz.prog 6 #[.bool b0, .bool b1, .bool b2, .bool b3, v] W fun e W' => e = .returned (.bool true) ∧ Below W.heap.size W W'

set_option maxRecDepth 1000000 in
set_option maxHeartbeats 1600000 in
theorem pl_lifted (core : PLCore) (os : Os) (started : os.Started) (H : Type) (enc : TypeId × Value → H) :
    ReturnsInTold none {} Tryz.checked os 6 .any Input.okWide ((OpenSpec.ofChange Rows.fnSingleLineScriptSpec).preRow enc Tryz.prog Tryz.f6 [] false Rows.fnSingleLineScriptRow.laid)
      (fun F => ((OpenSpec.ofChange Rows.fnSingleLineScriptSpec).at F.told).post enc Tryz.prog Tryz.f6 false Rows.fnSingleLineScriptRow.fresh Rows.fnSingleLineScriptRow.handsOn false) (aloneAtReturn Tryz.prog) nothingAlways := by
  refine returnsInTold_of_row (C := Tryz.checked) (s := OpenSpec.ofChange Rows.fnSingleLineScriptSpec) (by kernel_rfl) ownK started (by kernel_rfl) Tryz.func6
    (OpenSpec.witness_stopped_atRef (enc := enc) (C := Tryz.checked) false (laidWorld os) #[.bool false, .bool false, .bool false, .bool false, .slice none 0 0] rfl (by kernel_rfl) (by kernel_rfl) (by kernel_rfl)
      (OpenSpec.preRow_of_B rfl 8 (by kernel_rfl) (by kernel_rfl) (laid_met os _))) ?_
  intro F W base0 args ds gs before _ hF hval0 hW _ _ _ hL _
  have hval : ∀ (j : Nat) t v, Tryz.f6.params[j]? = some t → args[j]? = some v → Value.okWide Tryz.prog W .any base0 t v := hval0
  have hW' := hW
  obtain ⟨p, q, hA0, hV0, rfl, hfz, hnd⟩ := hW
  have hA : DataW.TrodAll enc Tryz.prog W 0 (fun _ => true) true Tryz.f6.params.toList args.toList ds p := hA0
  rw [Tryz.params6] at hA hval
  obtain ⟨v0, v1, v2, v3, v4, d0, d1, d2, d3, d4, p0, p1, p2, p3, p4, rfl, rfl, rfl, h0, h1, h2, h3, h4⟩ := trodAll_5 hA
  obtain ⟨b0, rfl, rfl, rfl⟩ := open_bool Tryz.underlying4 (hval 0 4 v0 rfl rfl) h0
  obtain ⟨b1, rfl, rfl, rfl⟩ := open_bool Tryz.underlying4 (hval 1 4 v1 rfl rfl) h1
  obtain ⟨b2, rfl, rfl, rfl⟩ := open_bool Tryz.underlying4 (hval 2 4 v2 rfl rfl) h2
  obtain ⟨b3, rfl, rfl, rfl⟩ := open_bool Tryz.underlying4 (hval 3 4 v3 rfl rfl) h3
  obtain ⟨vo, vn, vc, rfl⟩ := okWide_slice Tryz.underlying26 (hval 4 26 v4 rfl rfl)
  obtain ⟨fuel, hfu⟩ := h4
  obtain ⟨L, hLr, hLm⟩ := bools_of_trod hfu
  obtain ⟨_, _, _, _, g1, _, hgs, _⟩ := trodVars_one hV0
  refine (core b0 b1 b2 b3 _ L W hLr hLm).mono fun e W' ⟨he, hB⟩ => ?_
  subst he
  refine ⟨_, rfl, truth_post laidOutK (by kernel_rfl) (by kernel_rfl) (tb := 4) (by kernel_rfl) Tryz.underlying4 hW' ?_ hB _⟩
  rw [hgs]
  rfl

set_option maxRecDepth 1000000 in
theorem pl_holds (core : PLCore) : Rows.FnSingleLineScriptToldSaid :=
  Claim7.holds_of_told_tied_any_at .later 6 Tryz.f6 "fmt.errorf, its operands' methods called" ["fmt.Sprintf, its operands' methods called"] [] _ _ _ _ _ PL.hw rfl rfl rfl laidOutK mapsRowedK rfl ⟨rfl, rfl, rfl, rfl, rfl, rfl, rfl⟩ rfl rfl PL.htie PL.hfn Tryz.func6 PL.hr
    PL.hinst PL.hwrap PL.hstops rfl stopKnobsK.symm envWordedK
    PL.hin PL.hop PL.hrc PL.hvs PL.hmp PL.hif PL.hmo PL.hlo PL.hwk rfl PL.hvars rfl rfl
    rfl rfl
    rfl PL.hmain looksK PL.hfun (by decide) PL.hgoes fnSingleLineScript_row_tie
    (OpenClaim.moreEntering_of mayEnterK PL.m4 stopsHeardK PL.m6 PL.m7 PL.m8 PL.m9 PL.m10 PL.m11 PL.m12)
    ⟨_, WideRow.started_initial, quietK _⟩
    (fun os started _ H enc _ => pl_lifted core os started H enc) ⟨PL.hvl1, PL.hvl2⟩
end Go.Proofs.YtdfgcopelfmcmaaGreatFmt
