/-
  n010_150.FnWordPartSglQuotedExact: the card, out of what the walk says.
-/
import Derived.Test.YtlblpdbldnnllaaGreatFmtRSK
namespace Go.Proofs.YtlblpdbldnnllaaGreatFmt
open Go.ChangeShapes Go.WideShapes Go.ChangeAt Go.RowKit Go.Kit
open Go.ChangeMaps (open_string)
open Go.Extern.Stop Go.Stop Go.Extern

section
variable {H : Type} {enc : TypeId × Value → H} {P : Program} {w : World} {base : Nat} {spare : Nat → Bool} {held : Bool}
theorem rs_trod {t0 t1 : TypeId} {args : Array Value} {ds : List (DataW H)} {ps : List MemPlace} (h : DataW.TrodAll enc P w base spare held [t0, t1] args.toList ds ps) :
    ∃ v0 v1 d0 d1 p0 p1, args = #[v0, v1] ∧ ds = [d0, d1] ∧ ps = p0 ++ p1 ∧ DataW.Trod enc P w base spare held t0 v0 d0 p0 ∧ DataW.Trod enc P w base spare held t1 v1 d1 p1 := by
  obtain ⟨v0, vs0, d0, ds0, p0, q0, hargs, rfl, rfl, h0, r0⟩ := trodAll_cons h
  obtain ⟨v1, vs1, d1, ds1, p1, q1, rfl, rfl, rfl, h1, r1⟩ := trodAll_cons r0
  obtain ⟨rfl, rfl, rfl⟩ := trodAll_nil r1
  exact ⟨v0, v1, d0, d1, p0, p1, by cases args; simp_all, rfl, by simp, h0, h1⟩
end

def RSCore : Prop := ∀ (s0 : ByteArray) (b1 : Bool) (W : World), s0.size ≤ maxLen → Calls Tryz.prog 4 #[.string s0, .bool b1] W fun e W' => e = .returned (.bool true) ∧ Below W.heap.size W W'

set_option maxRecDepth 1000000 in
set_option maxHeartbeats 1600000 in
theorem rs_lifted (core : RSCore) (os : Os) (started : os.Started) (H : Type) (enc : TypeId × Value → H) :
    ReturnsInTold none {} Tryz.checked os 4 .any Input.okWide ((OpenSpec.ofChange Rows.fnWordPartSglQuotedExactSpec).preRow enc Tryz.prog Tryz.f4 [] false Rows.fnWordPartSglQuotedExactRow.laid)
      (fun F => ((OpenSpec.ofChange Rows.fnWordPartSglQuotedExactSpec).at F.told).post enc Tryz.prog Tryz.f4 false Rows.fnWordPartSglQuotedExactRow.fresh Rows.fnWordPartSglQuotedExactRow.handsOn false) (aloneAtReturn Tryz.prog) nothingAlways := by
  refine returnsInTold_of_row (C := Tryz.checked) (s := OpenSpec.ofChange Rows.fnWordPartSglQuotedExactSpec) (by kernel_rfl) ownK started (by kernel_rfl) Tryz.func4
    (OpenSpec.witness_stopped_atRef (enc := enc) (C := Tryz.checked) false (laidWorld os) #[.string ⟨#[]⟩, .bool false] rfl (by kernel_rfl) (by kernel_rfl) (by kernel_rfl)
      (OpenSpec.preRow_of_B rfl 8 (by kernel_rfl) (by kernel_rfl) (laid_met os _))) ?_
  intro F W base0 args ds gs before _ hF hval0 hW _ _ _ hL _
  have hval : ∀ (j : Nat) t v, Tryz.f4.params[j]? = some t → args[j]? = some v → Value.okWide Tryz.prog W .any base0 t v := hval0
  have hW' := hW
  obtain ⟨p, q, hA0, hV0, rfl, hfz, hnd⟩ := hW
  have hA : DataW.TrodAll enc Tryz.prog W 0 (fun _ => true) true Tryz.f4.params.toList args.toList ds p := hA0
  rw [Tryz.params4] at hA hval
  obtain ⟨v0, v1, d0, d1, p0, p1, rfl, rfl, rfl, h0, h1⟩ := rs_trod hA
  obtain ⟨s0, rfl, rfl, rfl, hs0⟩ := open_string Tryz.underlying9 (hval 0 9 v0 rfl rfl) h0
  obtain ⟨b1, rfl, rfl, rfl⟩ := open_bool Tryz.underlying4 (hval 1 4 v1 rfl rfl) h1
  obtain ⟨_, _, _, _, g1, _, hgs, _⟩ := trodVars_one hV0
  refine (core s0 b1 W hs0).mono fun e W' ⟨he, hB⟩ => ?_
  subst he
  refine ⟨_, rfl, truth_post laidOutK (by kernel_rfl) (by kernel_rfl) (tb := 4) (by kernel_rfl) Tryz.underlying4 hW' ?_ hB _⟩
  rw [hgs]
  rfl

set_option maxRecDepth 1000000 in
theorem rs_holds (core : RSCore) : Rows.FnWordPartSglQuotedExactToldSaid :=
  Claim7.holds_of_told_tied_any_at .later 4 Tryz.f4 "fmt.errorf, its operands' methods called" ["fmt.Sprintf, its operands' methods called"] [] _ _ _ _ _ RS.hw rfl rfl rfl laidOutK mapsRowedK rfl ⟨rfl, rfl, rfl, rfl, rfl, rfl, rfl⟩ rfl rfl RS.htie RS.hfn Tryz.func4 RS.hr
    RS.hinst RS.hwrap RS.hstops rfl stopKnobsK.symm envWordedK
    RS.hin RS.hop RS.hrc RS.hvs RS.hmp RS.hif RS.hmo RS.hlo RS.hwk rfl RS.hvars rfl rfl
    rfl rfl
    rfl RS.hmain looksK RS.hfun (by decide) RS.hgoes fnWordPartSglQuotedExact_row_tie
    (OpenClaim.moreEntering_of mayEnterK RS.m4 stopsHeardK RS.m6 RS.m7 RS.m8 RS.m9 RS.m10 RS.m11 RS.m12)
    ⟨_, WideRow.started_initial, quietK _⟩
    (fun os started _ H enc _ => rs_lifted core os started H enc) ⟨RS.hvl1, RS.hvl2⟩
end Go.Proofs.YtlblpdbldnnllaaGreatFmt
