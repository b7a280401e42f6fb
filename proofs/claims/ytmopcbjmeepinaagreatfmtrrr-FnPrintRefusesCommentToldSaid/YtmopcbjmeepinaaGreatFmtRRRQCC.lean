/-
  n010_39.FnPrintRefusesComment: the card, out of what the walk says.
-/
import Derived.Test.YtmopcbjmeepinaaGreatFmtRRRQCK
namespace Go.Proofs.YtmopcbjmeepinaaGreatFmtRRR
open Go.ChangeShapes Go.WideShapes Go.ChangeAt Go.RowKit Go.Kit
open Go.ChangeMaps (open_string)
open Go.Extern.Stop Go.Stop Go.Extern

theorem qc_u64 {n : Int} (h : (Lit.int .u64 n).wf = true) : 0 ≤ n := by
  have h0 : IntKind.u64.min = 0 := rfl
  simp [Lit.wf] at h
  omega
section
variable {H : Type} {enc : TypeId × Value → H} {P : Program} {w : World} {base : Nat} {spare : Nat → Bool} {held : Bool}
theorem qc_trod {t0 t1 t2 t3 : TypeId} {args : Array Value} {ds : List (DataW H)} {ps : List MemPlace} (h : DataW.TrodAll enc P w base spare held [t0, t1, t2, t3] args.toList ds ps) :
    ∃ v0 v1 v2 v3 d0 d1 d2 d3 p0 p1 p2 p3, args = #[v0, v1, v2, v3] ∧ ds = [d0, d1, d2, d3] ∧ ps = p0 ++ p1 ++ p2 ++ p3 ∧ DataW.Trod enc P w base spare held t0 v0 d0 p0 ∧ DataW.Trod enc P w base spare held t1 v1 d1 p1 ∧ DataW.Trod enc P w base spare held t2 v2 d2 p2 ∧ DataW.Trod enc P w base spare held t3 v3 d3 p3 := by
  obtain ⟨v0, vs0, d0, ds0, p0, q0, hargs, rfl, rfl, h0, r0⟩ := trodAll_cons h
  obtain ⟨v1, vs1, d1, ds1, p1, q1, rfl, rfl, rfl, h1, r1⟩ := trodAll_cons r0
  obtain ⟨v2, vs2, d2, ds2, p2, q2, rfl, rfl, rfl, h2, r2⟩ := trodAll_cons r1
  obtain ⟨v3, vs3, d3, ds3, p3, q3, rfl, rfl, rfl, h3, r3⟩ := trodAll_cons r2
  obtain ⟨rfl, rfl, rfl⟩ := trodAll_nil r3
  exact ⟨v0, v1, v2, v3, d0, d1, d2, d3, p0, p1, p2, p3, by cases args; simp_all, rfl, by simp, h0, h1, h2, h3⟩
end

def QCCore : Prop := ∀ (s0 : ByteArray) (k1 : Nat) (b2 : Bool) (b3 : Bool) (W : World), s0.size ≤ maxLen → Calls Tryz.prog 3 #[.string s0, .int .u64 (k1 : Int), .bool b2, .bool b3] W fun e W' => e = .returned (.bool true) ∧ Below W.heap.size W W'

set_option maxRecDepth 1000000 in
set_option maxHeartbeats 1600000 in
theorem qc_lifted (core : QCCore) (os : Os) (started : os.Started) (H : Type) (enc : TypeId × Value → H) :
    ReturnsInTold none {} Tryz.checked os 3 .any Input.okWide ((OpenSpec.ofChange Rows.fnPrintRefusesCommentSpec).preRow enc Tryz.prog Tryz.f3 [] false Rows.fnPrintRefusesCommentRow.laid)
      (fun F => ((OpenSpec.ofChange Rows.fnPrintRefusesCommentSpec).at F.told).post enc Tryz.prog Tryz.f3 false Rows.fnPrintRefusesCommentRow.fresh Rows.fnPrintRefusesCommentRow.handsOn false) (aloneAtReturn Tryz.prog) nothingAlways := by
  refine returnsInTold_of_row (C := Tryz.checked) (s := OpenSpec.ofChange Rows.fnPrintRefusesCommentSpec) (by kernel_rfl) ownK started (by kernel_rfl) Tryz.func3
    (OpenSpec.witness_stopped_atRef (enc := enc) (C := Tryz.checked) false (laidWorld os) #[.string ⟨#[]⟩, .int .u64 0, .bool false, .bool false] rfl (by kernel_rfl) (by kernel_rfl) (by kernel_rfl)
      (OpenSpec.preRow_of_B rfl 8 (by kernel_rfl) (by kernel_rfl) (laid_met os _))) ?_
  intro F W base0 args ds gs before _ hF hval0 hW _ _ _ hL _
  have hval : ∀ (j : Nat) t v, Tryz.f3.params[j]? = some t → args[j]? = some v → Value.okWide Tryz.prog W .any base0 t v := hval0
  have hW' := hW
  obtain ⟨p, q, hA0, hV0, rfl, hfz, hnd⟩ := hW
  have hA : DataW.TrodAll enc Tryz.prog W 0 (fun _ => true) true Tryz.f3.params.toList args.toList ds p := hA0
  rw [Tryz.params3] at hA hval
  obtain ⟨v0, v1, v2, v3, d0, d1, d2, d3, p0, p1, p2, p3, rfl, rfl, rfl, h0, h1, h2, h3⟩ := qc_trod hA
  obtain ⟨s0, rfl, rfl, rfl, hs0⟩ := open_string Tryz.underlying9 (hval 0 9 v0 rfl rfl) h0
  obtain ⟨n1, rfl, rfl, rfl, hw1⟩ := open_int Tryz.underlying22 (hval 1 22 v1 rfl rfl) h1
  obtain ⟨k1, rfl⟩ := Int.eq_ofNat_of_zero_le (qc_u64 hw1)
  obtain ⟨b2, rfl, rfl, rfl⟩ := open_bool Tryz.underlying4 (hval 2 4 v2 rfl rfl) h2
  obtain ⟨b3, rfl, rfl, rfl⟩ := open_bool Tryz.underlying4 (hval 3 4 v3 rfl rfl) h3
  obtain ⟨_, _, _, _, g1, _, hgs, _⟩ := trodVars_one hV0
  refine (core s0 k1 b2 b3 W hs0).mono fun e W' ⟨he, hB⟩ => ?_
  subst he
  refine ⟨_, rfl, truth_post laidOutK (by kernel_rfl) (by kernel_rfl) (tb := 4) (by kernel_rfl) Tryz.underlying4 hW' ?_ hB _⟩
  rw [hgs]
  rfl

set_option maxRecDepth 1000000 in
theorem qc_holds (core : QCCore) : Rows.FnPrintRefusesCommentToldSaid :=
  Claim7.holds_of_told_tied_any_at .later 3 Tryz.f3 "fmt.errorf, its operands' methods called" ["fmt.Sprintf, its operands' methods called"] [] _ _ _ _ _ QC.hw rfl rfl rfl laidOutK mapsRowedK rfl ⟨rfl, rfl, rfl, rfl, rfl, rfl, rfl⟩ rfl rfl QC.htie QC.hfn Tryz.func3 QC.hr
    QC.hinst QC.hwrap QC.hstops rfl stopKnobsK.symm envWordedK
    QC.hin QC.hop QC.hrc QC.hvs QC.hmp QC.hif QC.hmo QC.hlo QC.hwk rfl QC.hvars rfl rfl
    rfl rfl
    rfl QC.hmain looksK QC.hfun (by decide) QC.hgoes fnPrintRefusesComment_row_tie
    (OpenClaim.moreEntering_of mayEnterK QC.m4 stopsHeardK QC.m6 QC.m7 QC.m8 QC.m9 QC.m10 QC.m11 QC.m12)
    ⟨_, WideRow.started_initial, quietK _⟩
    (fun os started _ H enc _ => qc_lifted core os started H enc) ⟨QC.hvl1, QC.hvl2⟩
end Go.Proofs.YtmopcbjmeepinaaGreatFmtRRR
