/-
  n010_39.FnPrintWordOptionsTable: the card, out of what the walk says.
-/
import Derived.Test.YtlblpdbldnnllaaGreatFmtQWK
namespace Go.Proofs.YtlblpdbldnnllaaGreatFmt
open Go.ChangeShapes Go.WideShapes Go.ChangeAt Go.RowKit Go.Kit
open Go.ChangeMaps (open_string)
open Go.Extern.Stop Go.Stop Go.Extern

theorem qw_u64 {n : Int} (h : (Lit.int .u64 n).wf = true) : 0 ≤ n := by
  have h0 : IntKind.u64.min = 0 := rfl
  simp [Lit.wf] at h
  omega
section
variable {H : Type} {enc : TypeId × Value → H} {P : Program} {w : World} {base : Nat} {spare : Nat → Bool} {held : Bool}
theorem qw_trod {t0 t1 t2 t3 t4 t5 t6 t7 : TypeId} {args : Array Value} {ds : List (DataW H)} {ps : List MemPlace} (h : DataW.TrodAll enc P w base spare held [t0, t1, t2, t3, t4, t5, t6, t7] args.toList ds ps) :
    ∃ v0 v1 v2 v3 v4 v5 v6 v7 d0 d1 d2 d3 d4 d5 d6 d7 p0 p1 p2 p3 p4 p5 p6 p7, args = #[v0, v1, v2, v3, v4, v5, v6, v7] ∧ ds = [d0, d1, d2, d3, d4, d5, d6, d7] ∧ ps = p0 ++ p1 ++ p2 ++ p3 ++ p4 ++ p5 ++ p6 ++ p7 ∧ DataW.Trod enc P w base spare held t0 v0 d0 p0 ∧ DataW.Trod enc P w base spare held t1 v1 d1 p1 ∧ DataW.Trod enc P w base spare held t2 v2 d2 p2 ∧ DataW.Trod enc P w base spare held t3 v3 d3 p3 ∧ DataW.Trod enc P w base spare held t4 v4 d4 p4 ∧ DataW.Trod enc P w base spare held t5 v5 d5 p5 ∧ DataW.Trod enc P w base spare held t6 v6 d6 p6 ∧ DataW.Trod enc P w base spare held t7 v7 d7 p7 := by
  obtain ⟨v0, vs0, d0, ds0, p0, q0, hargs, rfl, rfl, h0, r0⟩ := trodAll_cons h
  obtain ⟨v1, vs1, d1, ds1, p1, q1, rfl, rfl, rfl, h1, r1⟩ := trodAll_cons r0
  obtain ⟨v2, vs2, d2, ds2, p2, q2, rfl, rfl, rfl, h2, r2⟩ := trodAll_cons r1
  obtain ⟨v3, vs3, d3, ds3, p3, q3, rfl, rfl, rfl, h3, r3⟩ := trodAll_cons r2
  obtain ⟨v4, vs4, d4, ds4, p4, q4, rfl, rfl, rfl, h4, r4⟩ := trodAll_cons r3
  obtain ⟨v5, vs5, d5, ds5, p5, q5, rfl, rfl, rfl, h5, r5⟩ := trodAll_cons r4
  obtain ⟨v6, vs6, d6, ds6, p6, q6, rfl, rfl, rfl, h6, r6⟩ := trodAll_cons r5
  obtain ⟨v7, vs7, d7, ds7, p7, q7, rfl, rfl, rfl, h7, r7⟩ := trodAll_cons r6
  obtain ⟨rfl, rfl, rfl⟩ := trodAll_nil r7
  exact ⟨v0, v1, v2, v3, v4, v5, v6, v7, d0, d1, d2, d3, d4, d5, d6, d7, p0, p1, p2, p3, p4, p5, p6, p7, by cases args; simp_all, rfl, by simp, h0, h1, h2, h3, h4, h5, h6, h7⟩
end

def QWCore : Prop := ∀ (s0 : ByteArray) (k1 : Nat) (b2 : Bool) (b3 : Bool) (b4 : Bool) (b5 : Bool) (b6 : Bool) (b7 : Bool) (W : World), s0.size ≤ maxLen → Calls Tryz.prog 5 #[.string s0, .int .u64 (k1 : Int), .bool b2, .bool b3, .bool b4, .bool b5, .bool b6, .bool b7] W fun e W' => e = .returned (.bool true) ∧ Below W.heap.size W W'

set_option maxRecDepth 1000000 in
set_option maxHeartbeats 1600000 in
theorem qw_lifted (core : QWCore) (os : Os) (started : os.Started) (H : Type) (enc : TypeId × Value → H) :
    ReturnsInTold none {} Tryz.checked os 5 .any Input.okWide ((OpenSpec.ofChange Rows.fnPrintWordOptionsTableSpec).preRow enc Tryz.prog Tryz.f5 [] false Rows.fnPrintWordOptionsTableRow.laid)
      (fun F => ((OpenSpec.ofChange Rows.fnPrintWordOptionsTableSpec).at F.told).post enc Tryz.prog Tryz.f5 false Rows.fnPrintWordOptionsTableRow.fresh Rows.fnPrintWordOptionsTableRow.handsOn false) (aloneAtReturn Tryz.prog) nothingAlways := by
  refine returnsInTold_of_row (C := Tryz.checked) (s := OpenSpec.ofChange Rows.fnPrintWordOptionsTableSpec) (by kernel_rfl) ownK started (by kernel_rfl) Tryz.func5
    (OpenSpec.witness_stopped_atRef (enc := enc) (C := Tryz.checked) false (laidWorld os) #[.string ⟨#[]⟩, .int .u64 0, .bool false, .bool false, .bool false, .bool false, .bool false, .bool false] rfl (by kernel_rfl) (by kernel_rfl) (by kernel_rfl)
      (OpenSpec.preRow_of_B rfl 8 (by kernel_rfl) (by kernel_rfl) (laid_met os _))) ?_
  intro F W base0 args ds gs before _ hF hval0 hW _ _ _ hL _
  have hval : ∀ (j : Nat) t v, Tryz.f5.params[j]? = some t → args[j]? = some v → Value.okWide Tryz.prog W .any base0 t v := hval0
  have hW' := hW
  obtain ⟨p, q, hA0, hV0, rfl, hfz, hnd⟩ := hW
  have hA : DataW.TrodAll enc Tryz.prog W 0 (fun _ => true) true Tryz.f5.params.toList args.toList ds p := hA0
  rw [Tryz.params5] at hA hval
  obtain ⟨v0, v1, v2, v3, v4, v5, v6, v7, d0, d1, d2, d3, d4, d5, d6, d7, p0, p1, p2, p3, p4, p5, p6, p7, rfl, rfl, rfl, h0, h1, h2, h3, h4, h5, h6, h7⟩ := qw_trod hA
  obtain ⟨s0, rfl, rfl, rfl, hs0⟩ := open_string Tryz.underlying9 (hval 0 9 v0 rfl rfl) h0
  obtain ⟨n1, rfl, rfl, rfl, hw1⟩ := open_int Tryz.underlying26 (hval 1 26 v1 rfl rfl) h1
  obtain ⟨k1, rfl⟩ := Int.eq_ofNat_of_zero_le (qw_u64 hw1)
  obtain ⟨b2, rfl, rfl, rfl⟩ := open_bool Tryz.underlying4 (hval 2 4 v2 rfl rfl) h2
  obtain ⟨b3, rfl, rfl, rfl⟩ := open_bool Tryz.underlying4 (hval 3 4 v3 rfl rfl) h3
  obtain ⟨b4, rfl, rfl, rfl⟩ := open_bool Tryz.underlying4 (hval 4 4 v4 rfl rfl) h4
  obtain ⟨b5, rfl, rfl, rfl⟩ := open_bool Tryz.underlying4 (hval 5 4 v5 rfl rfl) h5
  obtain ⟨b6, rfl, rfl, rfl⟩ := open_bool Tryz.underlying4 (hval 6 4 v6 rfl rfl) h6
  obtain ⟨b7, rfl, rfl, rfl⟩ := open_bool Tryz.underlying4 (hval 7 4 v7 rfl rfl) h7
  obtain ⟨_, _, _, _, g1, _, hgs, _⟩ := trodVars_one hV0
  refine (core s0 k1 b2 b3 b4 b5 b6 b7 W hs0).mono fun e W' ⟨he, hB⟩ => ?_
  subst he
  refine ⟨_, rfl, truth_post laidOutK (by kernel_rfl) (by kernel_rfl) (tb := 4) (by kernel_rfl) Tryz.underlying4 hW' ?_ hB _⟩
  rw [hgs]
  rfl

set_option maxRecDepth 1000000 in
theorem qw_holds (core : QWCore) : Rows.FnPrintWordOptionsTableToldSaid :=
  Claim7.holds_of_told_tied_any_at .later 5 Tryz.f5 "fmt.errorf, its operands' methods called" ["fmt.Sprintf, its operands' methods called"] [] _ _ _ _ _ QW.hw rfl rfl rfl laidOutK mapsRowedK rfl ⟨rfl, rfl, rfl, rfl, rfl, rfl, rfl⟩ rfl rfl QW.htie QW.hfn Tryz.func5 QW.hr
    QW.hinst QW.hwrap QW.hstops rfl stopKnobsK.symm envWordedK
    QW.hin QW.hop QW.hrc QW.hvs QW.hmp QW.hif QW.hmo QW.hlo QW.hwk rfl QW.hvars rfl rfl
    rfl rfl
    rfl QW.hmain looksK QW.hfun (by decide) QW.hgoes fnPrintWordOptionsTable_row_tie
    (OpenClaim.moreEntering_of mayEnterK QW.m4 stopsHeardK QW.m6 QW.m7 QW.m8 QW.m9 QW.m10 QW.m11 QW.m12)
    ⟨_, WideRow.started_initial, quietK _⟩
    (fun os started _ H enc _ => qw_lifted core os started H enc) ⟨QW.hvl1, QW.hvl2⟩
end Go.Proofs.YtlblpdbldnnllaaGreatFmt
