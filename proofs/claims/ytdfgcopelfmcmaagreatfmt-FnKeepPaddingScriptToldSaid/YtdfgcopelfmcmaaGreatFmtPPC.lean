/-
  n010_67.FnKeepPaddingScript: the card, out of what the walk says.
-/
import Derived.Test.YtdfgcopelfmcmaaGreatFmtPPK
import Derived.Test.YtdfgcopelfmcmaaGreatFmtBools
namespace Go.Proofs.YtdfgcopelfmcmaaGreatFmt
open Go.ChangeShapes Go.WideShapes Go.ChangeAt Go.RowKit Go.Kit
open Go.Extern.Stop Go.Stop Go.Extern

def PPCore : Prop := ∀ (b0 : Bool) (v : Value) (L : List Bool) (W : World), BoolsRd W v L → L.length ≤ maxLen → Calls Tryz.prog 7 #[.bool b0, v] W fun e W' => e = .returned (.bool true) ∧ Below W.heap.size W W'

set_option maxRecDepth 1000000 in
set_option maxHeartbeats 1600000 in
theorem pp_lifted (core : PPCore) (os : Os) (started : os.Started) (H : Type) (enc : TypeId × Value → H) :
    ReturnsInTold none {} Tryz.checked os 7 .any Input.okWide ((OpenSpec.ofChange Rows.fnKeepPaddingScriptSpec).preRow enc Tryz.prog Tryz.f7 [] false Rows.fnKeepPaddingScriptRow.laid)
      (fun F => ((OpenSpec.ofChange Rows.fnKeepPaddingScriptSpec).at F.told).post enc Tryz.prog Tryz.f7 false Rows.fnKeepPaddingScriptRow.fresh Rows.fnKeepPaddingScriptRow.handsOn false) (aloneAtReturn Tryz.prog) nothingAlways := by
  refine returnsInTold_of_row (C := Tryz.checked) (s := OpenSpec.ofChange Rows.fnKeepPaddingScriptSpec) (by kernel_rfl) ownK started (by kernel_rfl) Tryz.func7
    (OpenSpec.witness_stopped_atRef (enc := enc) (C := Tryz.checked) false (laidWorld os) #[.bool false, .slice none 0 0] rfl (by kernel_rfl) (by kernel_rfl) (by kernel_rfl)
      (OpenSpec.preRow_of_B rfl 8 (by kernel_rfl) (by kernel_rfl) (laid_met os _))) ?_
  intro F W base0 args ds gs before _ hF hval0 hW _ _ _ hL _
  have hval : ∀ (j : Nat) t v, Tryz.f7.params[j]? = some t → args[j]? = some v → Value.okWide Tryz.prog W .any base0 t v := hval0
  have hW' := hW
  obtain ⟨p, q, hA0, hV0, rfl, hfz, hnd⟩ := hW
  have hA : DataW.TrodAll enc Tryz.prog W 0 (fun _ => true) true Tryz.f7.params.toList args.toList ds p := hA0
  rw [Tryz.params7] at hA hval
  obtain ⟨v0, v1, d0, d1, p0, p1, rfl, rfl, rfl, h0, h1⟩ := trodAll_two hA
  obtain ⟨b0, rfl, rfl, rfl⟩ := open_bool Tryz.underlying4 (hval 0 4 v0 rfl rfl) h0
  obtain ⟨vo, vn, vc, rfl⟩ := okWide_slice Tryz.underlying26 (hval 1 26 v1 rfl rfl)
  obtain ⟨fuel, hfu⟩ := h1
  obtain ⟨L, hLr, hLm⟩ := bools_of_trod hfu
  obtain ⟨_, _, _, _, g1, _, hgs, _⟩ := trodVars_one hV0
  refine (core b0 _ L W hLr hLm).mono fun e W' ⟨he, hB⟩ => ?_
  subst he
  refine ⟨_, rfl, truth_post laidOutK (by kernel_rfl) (by kernel_rfl) (tb := 4) (by kernel_rfl) Tryz.underlying4 hW' ?_ hB _⟩
  rw [hgs]
  rfl

set_option maxRecDepth 1000000 in
theorem pp_holds (core : PPCore) : Rows.FnKeepPaddingScriptToldSaid :=
  Claim7.holds_of_told_tied_any_at .later 7 Tryz.f7 "fmt.errorf, its operands' methods called" ["fmt.Sprintf, its operands' methods called"] [] _ _ _ _ _ PP.hw rfl rfl rfl laidOutK mapsRowedK rfl ⟨rfl, rfl, rfl, rfl, rfl, rfl, rfl⟩ rfl rfl PP.htie PP.hfn Tryz.func7 PP.hr
    PP.hinst PP.hwrap PP.hstops rfl stopKnobsK.symm envWordedK
    PP.hin PP.hop PP.hrc PP.hvs PP.hmp PP.hif PP.hmo PP.hlo PP.hwk rfl PP.hvars rfl rfl
    rfl rfl
    rfl PP.hmain looksK PP.hfun (by decide) PP.hgoes fnKeepPaddingScript_row_tie
    (OpenClaim.moreEntering_of mayEnterK PP.m4 stopsHeardK PP.m6 PP.m7 PP.m8 PP.m9 PP.m10 PP.m11 PP.m12)
    ⟨_, WideRow.started_initial, quietK _⟩
    (fun os started _ H enc _ => pp_lifted core os started H enc) ⟨PP.hvl1, PP.hvl2⟩
end Go.Proofs.YtdfgcopelfmcmaaGreatFmt
