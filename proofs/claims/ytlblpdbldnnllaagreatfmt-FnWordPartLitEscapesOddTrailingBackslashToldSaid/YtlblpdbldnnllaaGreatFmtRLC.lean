/-
  n010_150.FnWordPartLitEscapesOddTrailingBackslash: the card, out of what the walk says.
-/
import Derived.Test.YtlblpdbldnnllaaGreatFmtRLK
namespace Go.Proofs.YtlblpdbldnnllaaGreatFmt
open Go.ChangeShapes Go.WideShapes Go.ChangeAt Go.RowKit Go.Kit
open Go.ChangeMaps (open_string)
open Go.Extern.Stop Go.Stop Go.Extern

section
variable {H : Type} {enc : TypeId × Value → H} {P : Program} {w : World} {base : Nat} {spare : Nat → Bool} {held : Bool}
theorem rl_trod {t0 : TypeId} {args : Array Value} {ds : List (DataW H)} {ps : List MemPlace} (h : DataW.TrodAll enc P w base spare held [t0] args.toList ds ps) :
    ∃ v0 d0 p0, args = #[v0] ∧ ds = [d0] ∧ ps = p0 ∧ DataW.Trod enc P w base spare held t0 v0 d0 p0 := by
  obtain ⟨v0, vs0, d0, ds0, p0, q0, hargs, rfl, rfl, h0, r0⟩ := trodAll_cons h
  obtain ⟨rfl, rfl, rfl⟩ := trodAll_nil r0
  exact ⟨v0, d0, p0, by cases args; simp_all, rfl, by simp, h0⟩
end

def RLCore : Prop := ∀ (s0 : ByteArray) (W : World), s0.size ≤ maxLen → Calls Tryz.prog 3 #[.string s0] W fun e W' => e = .returned (.bool true) ∧ Below W.heap.size W W'

set_option maxRecDepth 1000000 in
set_option maxHeartbeats 1600000 in
theorem rl_lifted (core : RLCore) (os : Os) (started : os.Started) (H : Type) (enc : TypeId × Value → H) :
    ReturnsInTold none {} Tryz.checked os 3 .any Input.okWide ((OpenSpec.ofChange Rows.fnWordPartLitEscapesOddTrailingBackslashSpec).preRow enc Tryz.prog Tryz.f3 [] false Rows.fnWordPartLitEscapesOddTrailingBackslashRow.laid)
      (fun F => ((OpenSpec.ofChange Rows.fnWordPartLitEscapesOddTrailingBackslashSpec).at F.told).post enc Tryz.prog Tryz.f3 false Rows.fnWordPartLitEscapesOddTrailingBackslashRow.fresh Rows.fnWordPartLitEscapesOddTrailingBackslashRow.handsOn false) (aloneAtReturn Tryz.prog) nothingAlways := by
  refine returnsInTold_of_row (C := Tryz.checked) (s := OpenSpec.ofChange Rows.fnWordPartLitEscapesOddTrailingBackslashSpec) (by kernel_rfl) ownK started (by kernel_rfl) Tryz.func3
    (OpenSpec.witness_stopped_atRef (enc := enc) (C := Tryz.checked) false (laidWorld os) #[.string ⟨#[]⟩] rfl (by kernel_rfl) (by kernel_rfl) (by kernel_rfl)
      (OpenSpec.preRow_of_B rfl 8 (by kernel_rfl) (by kernel_rfl) (laid_met os _))) ?_
  intro F W base0 args ds gs before _ hF hval0 hW _ _ _ hL _
  have hval : ∀ (j : Nat) t v, Tryz.f3.params[j]? = some t → args[j]? = some v → Value.okWide Tryz.prog W .any base0 t v := hval0
  have hW' := hW
  obtain ⟨p, q, hA0, hV0, rfl, hfz, hnd⟩ := hW
  have hA : DataW.TrodAll enc Tryz.prog W 0 (fun _ => true) true Tryz.f3.params.toList args.toList ds p := hA0
  rw [Tryz.params3] at hA hval
  obtain ⟨v0, d0, rfl, rfl, h0⟩ := trodAll_one hA
  obtain ⟨s0, rfl, rfl, rfl, hs0⟩ := open_string Tryz.underlying9 (hval 0 9 v0 rfl rfl) h0
  obtain ⟨_, _, _, _, g1, _, hgs, _⟩ := trodVars_one hV0
  refine (core s0 W hs0).mono fun e W' ⟨he, hB⟩ => ?_
  subst he
  refine ⟨_, rfl, truth_post laidOutK (by kernel_rfl) (by kernel_rfl) (tb := 4) (by kernel_rfl) Tryz.underlying4 hW' ?_ hB _⟩
  rw [hgs]
  rfl

set_option maxRecDepth 1000000 in
theorem rl_holds (core : RLCore) : Rows.FnWordPartLitEscapesOddTrailingBackslashToldSaid :=
  Claim7.holds_of_told_tied_any_at .later 3 Tryz.f3 "fmt.errorf, its operands' methods called" ["fmt.Sprintf, its operands' methods called"] [] _ _ _ _ _ RL.hw rfl rfl rfl laidOutK mapsRowedK rfl ⟨rfl, rfl, rfl, rfl, rfl, rfl, rfl⟩ rfl rfl RL.htie RL.hfn Tryz.func3 RL.hr
    RL.hinst RL.hwrap RL.hstops rfl stopKnobsK.symm envWordedK
    RL.hin RL.hop RL.hrc RL.hvs RL.hmp RL.hif RL.hmo RL.hlo RL.hwk rfl RL.hvars rfl rfl
    rfl rfl
    rfl RL.hmain looksK RL.hfun (by decide) RL.hgoes fnWordPartLitEscapesOddTrailingBackslash_row_tie
    (OpenClaim.moreEntering_of mayEnterK RL.m4 stopsHeardK RL.m6 RL.m7 RL.m8 RL.m9 RL.m10 RL.m11 RL.m12)
    ⟨_, WideRow.started_initial, quietK _⟩
    (fun os started _ H enc _ => rl_lifted core os started H enc) ⟨RL.hvl1, RL.hvl2⟩
end Go.Proofs.YtlblpdbldnnllaaGreatFmt
