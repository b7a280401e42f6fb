/-
  n010_150.FnWordPartsUnquotedIgnoresLines: the card, out of what the walk says.
-/
import Derived.Test.YtlblpdbldnnllaaGreatFmtRUK
import Derived.Test.YtlblpdbldnnllaaGreatFmtOpn
namespace Go.Proofs.YtlblpdbldnnllaaGreatFmt
open Go.ChangeShapes Go.WideShapes Go.ChangeAt Go.RowKit Go.Kit
open Go.ChangeMaps (open_string)
open Go.Extern.Stop Go.Stop Go.Extern

section
variable {H : Type} {enc : TypeId × Value → H} {P : Program} {w : World} {base : Nat} {spare : Nat → Bool} {held : Bool}
theorem ru_trod {t0 t1 : TypeId} {args : Array Value} {ds : List (DataW H)} {ps : List MemPlace} (h : DataW.TrodAll enc P w base spare held [t0, t1] args.toList ds ps) :
    ∃ v0 v1 d0 d1 p0 p1, args = #[v0, v1] ∧ ds = [d0, d1] ∧ ps = p0 ++ p1 ∧ DataW.Trod enc P w base spare held t0 v0 d0 p0 ∧ DataW.Trod enc P w base spare held t1 v1 d1 p1 := by
  obtain ⟨v0, vs0, d0, ds0, p0, q0, hargs, rfl, rfl, h0, r0⟩ := trodAll_cons h
  obtain ⟨v1, vs1, d1, ds1, p1, q1, rfl, rfl, rfl, h1, r1⟩ := trodAll_cons r0
  obtain ⟨rfl, rfl, rfl⟩ := trodAll_nil r1
  exact ⟨v0, v1, d0, d1, p0, p1, by cases args; simp_all, rfl, by simp, h0, h1⟩
end

def RUCore : Prop := ∀ (x0 : Value) (L0 : List ByteArray) (x1 : Value) (L1 : List Nat) (W : World), StrsRd W x0 L0 → L0.length ≤ maxLen → UintsRd W x1 L1 → L1.length ≤ maxLen → Calls Tryz.prog 6 #[x0, x1] W fun e W' => e = .returned (.bool true) ∧ Below W.heap.size W W'

set_option maxRecDepth 1000000 in
set_option maxHeartbeats 1600000 in
theorem ru_lifted (core : RUCore) (os : Os) (started : os.Started) (H : Type) (enc : TypeId × Value → H) :
    ReturnsInTold none {} Tryz.checked os 6 .any Input.okWide ((OpenSpec.ofChange Rows.fnWordPartsUnquotedIgnoresLinesSpec).preRow enc Tryz.prog Tryz.f6 [] false Rows.fnWordPartsUnquotedIgnoresLinesRow.laid)
      (fun F => ((OpenSpec.ofChange Rows.fnWordPartsUnquotedIgnoresLinesSpec).at F.told).post enc Tryz.prog Tryz.f6 false Rows.fnWordPartsUnquotedIgnoresLinesRow.fresh Rows.fnWordPartsUnquotedIgnoresLinesRow.handsOn false) (aloneAtReturn Tryz.prog) nothingAlways := by
  refine returnsInTold_of_row (C := Tryz.checked) (s := OpenSpec.ofChange Rows.fnWordPartsUnquotedIgnoresLinesSpec) (by kernel_rfl) ownK started (by kernel_rfl) Tryz.func6
    (OpenSpec.witness_stopped_atRef (enc := enc) (C := Tryz.checked) false (laidWorld os) #[.slice none 0 0, .slice none 0 0] rfl (by kernel_rfl) (by kernel_rfl) (by kernel_rfl)
      (OpenSpec.preRow_of_B rfl 8 (by kernel_rfl) (by kernel_rfl) (laid_met os _))) ?_
  intro F W base0 args ds gs before _ hF hval0 hW _ _ _ hL _
  have hval : ∀ (j : Nat) t v, Tryz.f6.params[j]? = some t → args[j]? = some v → Value.okWide Tryz.prog W .any base0 t v := hval0
  have hW' := hW
  obtain ⟨p, q, hA0, hV0, rfl, hfz, hnd⟩ := hW
  have hA : DataW.TrodAll enc Tryz.prog W 0 (fun _ => true) true Tryz.f6.params.toList args.toList ds p := hA0
  rw [Tryz.params6] at hA hval
  obtain ⟨v0, v1, d0, d1, p0, p1, rfl, rfl, rfl, h0, h1⟩ := ru_trod hA
  obtain ⟨vo0, vn0, vc0, rfl⟩ := okWide_slice Tryz.underlying46 (hval 0 46 v0 rfl rfl)
  obtain ⟨fuel0, hf0⟩ := h0
  obtain ⟨L0, hr0, hm0⟩ := strs_of_trod hf0
  obtain ⟨vo1, vn1, vc1, rfl⟩ := okWide_slice Tryz.underlying47 (hval 1 47 v1 rfl rfl)
  obtain ⟨fuel1, hf1⟩ := h1
  obtain ⟨L1, hr1, hm1⟩ := uints_of_trod hf1
  obtain ⟨_, _, _, _, g1, _, hgs, _⟩ := trodVars_one hV0
  refine (core _ L0 _ L1 W hr0 hm0 hr1 hm1).mono fun e W' ⟨he, hB⟩ => ?_
  subst he
  refine ⟨_, rfl, truth_post laidOutK (by kernel_rfl) (by kernel_rfl) (tb := 4) (by kernel_rfl) Tryz.underlying4 hW' ?_ hB _⟩
  rw [hgs]
  rfl

set_option maxRecDepth 1000000 in
theorem ru_holds (core : RUCore) : Rows.FnWordPartsUnquotedIgnoresLinesToldSaid :=
  Claim7.holds_of_told_tied_any_at .later 6 Tryz.f6 "fmt.errorf, its operands' methods called" ["fmt.Sprintf, its operands' methods called"] [] _ _ _ _ _ RU.hw rfl rfl rfl laidOutK mapsRowedK rfl ⟨rfl, rfl, rfl, rfl, rfl, rfl, rfl⟩ rfl rfl RU.htie RU.hfn Tryz.func6 RU.hr
    RU.hinst RU.hwrap RU.hstops rfl stopKnobsK.symm envWordedK
    RU.hin RU.hop RU.hrc RU.hvs RU.hmp RU.hif RU.hmo RU.hlo RU.hwk rfl RU.hvars rfl rfl
    rfl rfl
    rfl RU.hmain looksK RU.hfun (by decide) RU.hgoes fnWordPartsUnquotedIgnoresLines_row_tie
    (OpenClaim.moreEntering_of mayEnterK RU.m4 stopsHeardK RU.m6 RU.m7 RU.m8 RU.m9 RU.m10 RU.m11 RU.m12)
    ⟨_, WideRow.started_initial, quietK _⟩
    (fun os started _ H enc _ => ru_lifted core os started H enc) ⟨RU.hvl1, RU.hvl2⟩
end Go.Proofs.YtlblpdbldnnllaaGreatFmt
