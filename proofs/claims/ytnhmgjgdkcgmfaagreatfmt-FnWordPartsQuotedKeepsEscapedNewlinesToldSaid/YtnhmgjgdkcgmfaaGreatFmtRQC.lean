/-
  n010_150.FnWordPartsQuotedKeepsEscapedNewlines: the card, out of what the walk says.
-/
import Derived.Test.YtnhmgjgdkcgmfaaGreatFmtRQK
import Derived.Test.YtnhmgjgdkcgmfaaGreatFmtOpn
namespace Go.Proofs.YtnhmgjgdkcgmfaaGreatFmt
open Go.ChangeShapes Go.WideShapes Go.ChangeAt Go.RowKit Go.Kit
open Go.ChangeMaps (open_string)
open Go.Extern.Stop Go.Stop Go.Extern

theorem rq_u64 {n : Int} (h : (Lit.int .u64 n).wf = true) : 0 ≤ n := by
  have h0 : IntKind.u64.min = 0 := rfl
  simp [Lit.wf] at h
  omega
section
variable {H : Type} {enc : TypeId × Value → H} {P : Program} {w : World} {base : Nat} {spare : Nat → Bool} {held : Bool}
theorem rq_trod {t0 t1 t2 t3 : TypeId} {args : Array Value} {ds : List (DataW H)} {ps : List MemPlace} (h : DataW.TrodAll enc P w base spare held [t0, t1, t2, t3] args.toList ds ps) :
    ∃ v0 v1 v2 v3 d0 d1 d2 d3 p0 p1 p2 p3, args = #[v0, v1, v2, v3] ∧ ds = [d0, d1, d2, d3] ∧ ps = p0 ++ p1 ++ p2 ++ p3 ∧ DataW.Trod enc P w base spare held t0 v0 d0 p0 ∧ DataW.Trod enc P w base spare held t1 v1 d1 p1 ∧ DataW.Trod enc P w base spare held t2 v2 d2 p2 ∧ DataW.Trod enc P w base spare held t3 v3 d3 p3 := by
  obtain ⟨v0, vs0, d0, ds0, p0, q0, hargs, rfl, rfl, h0, r0⟩ := trodAll_cons h
  obtain ⟨v1, vs1, d1, ds1, p1, q1, rfl, rfl, rfl, h1, r1⟩ := trodAll_cons r0
  obtain ⟨v2, vs2, d2, ds2, p2, q2, rfl, rfl, rfl, h2, r2⟩ := trodAll_cons r1
  obtain ⟨v3, vs3, d3, ds3, p3, q3, rfl, rfl, rfl, h3, r3⟩ := trodAll_cons r2
  obtain ⟨rfl, rfl, rfl⟩ := trodAll_nil r3
  exact ⟨v0, v1, v2, v3, d0, d1, d2, d3, p0, p1, p2, p3, by cases args; simp_all, rfl, by simp, h0, h1, h2, h3⟩
end

def RQCore : Prop := ∀ (x0 : Value) (L0 : List ByteArray) (x1 : Value) (L1 : List Nat) (k2 : Nat) (k3 : Nat) (W : World), StrsRd W x0 L0 → L0.length ≤ maxLen → UintsRd W x1 L1 → L1.length ≤ maxLen → Calls Tryz.prog 3 #[x0, x1, .int .u64 (k2 : Int), .int .u64 (k3 : Int)] W fun e W' => e = .returned (.bool true) ∧ Below W.heap.size W W'

set_option maxRecDepth 1000000 in
set_option maxHeartbeats 1600000 in
theorem rq_lifted (core : RQCore) (os : Os) (started : os.Started) (H : Type) (enc : TypeId × Value → H) :
    ReturnsInTold none {} Tryz.checked os 3 .any Input.okWide ((OpenSpec.ofChange Rows.fnWordPartsQuotedKeepsEscapedNewlinesSpec).preRow enc Tryz.prog Tryz.f3 [] false Rows.fnWordPartsQuotedKeepsEscapedNewlinesRow.laid)
      (fun F => ((OpenSpec.ofChange Rows.fnWordPartsQuotedKeepsEscapedNewlinesSpec).at F.told).post enc Tryz.prog Tryz.f3 false Rows.fnWordPartsQuotedKeepsEscapedNewlinesRow.fresh Rows.fnWordPartsQuotedKeepsEscapedNewlinesRow.handsOn false) (aloneAtReturn Tryz.prog) nothingAlways := by
  refine returnsInTold_of_row (C := Tryz.checked) (s := OpenSpec.ofChange Rows.fnWordPartsQuotedKeepsEscapedNewlinesSpec) (by kernel_rfl) ownK started (by kernel_rfl) Tryz.func3
    (OpenSpec.witness_stopped_atRef (enc := enc) (C := Tryz.checked) false (laidWorld os) #[.slice none 0 0, .slice none 0 0, .int .u64 0, .int .u64 0] rfl (by kernel_rfl) (by kernel_rfl) (by kernel_rfl)
      (OpenSpec.preRow_of_B rfl 8 (by kernel_rfl) (by kernel_rfl) (laid_met os _))) ?_
  intro F W base0 args ds gs before _ hF hval0 hW _ _ _ hL _
  have hval : ∀ (j : Nat) t v, Tryz.f3.params[j]? = some t → args[j]? = some v → Value.okWide Tryz.prog W .any base0 t v := hval0
  have hW' := hW
  obtain ⟨p, q, hA0, hV0, rfl, hfz, hnd⟩ := hW
  have hA : DataW.TrodAll enc Tryz.prog W 0 (fun _ => true) true Tryz.f3.params.toList args.toList ds p := hA0
  rw [Tryz.params3] at hA hval
  obtain ⟨v0, v1, v2, v3, d0, d1, d2, d3, p0, p1, p2, p3, rfl, rfl, rfl, h0, h1, h2, h3⟩ := rq_trod hA
  obtain ⟨vo0, vn0, vc0, rfl⟩ := okWide_slice Tryz.underlying22 (hval 0 22 v0 rfl rfl)
  obtain ⟨fuel0, hf0⟩ := h0
  obtain ⟨L0, hr0, hm0⟩ := strs_of_trod hf0
  obtain ⟨vo1, vn1, vc1, rfl⟩ := okWide_slice Tryz.underlying23 (hval 1 23 v1 rfl rfl)
  obtain ⟨fuel1, hf1⟩ := h1
  obtain ⟨L1, hr1, hm1⟩ := uints_of_trod hf1
  obtain ⟨n2, rfl, rfl, rfl, hw2⟩ := open_int Tryz.underlying24 (hval 2 24 v2 rfl rfl) h2
  obtain ⟨k2, rfl⟩ := Int.eq_ofNat_of_zero_le (rq_u64 hw2)
  obtain ⟨n3, rfl, rfl, rfl, hw3⟩ := open_int Tryz.underlying24 (hval 3 24 v3 rfl rfl) h3
  obtain ⟨k3, rfl⟩ := Int.eq_ofNat_of_zero_le (rq_u64 hw3)
  obtain ⟨_, _, _, _, g1, _, hgs, _⟩ := trodVars_one hV0
  refine (core _ L0 _ L1 k2 k3 W hr0 hm0 hr1 hm1).mono fun e W' ⟨he, hB⟩ => ?_
  subst he
  refine ⟨_, rfl, truth_post laidOutK (by kernel_rfl) (by kernel_rfl) (tb := 4) (by kernel_rfl) Tryz.underlying4 hW' ?_ hB _⟩
  rw [hgs]
  rfl

set_option maxRecDepth 1000000 in
theorem rq_holds (core : RQCore) : Rows.FnWordPartsQuotedKeepsEscapedNewlinesToldSaid :=
  Claim7.holds_of_told_tied_any_at .later 3 Tryz.f3 "fmt.errorf, its operands' methods called" ["fmt.Sprintf, its operands' methods called"] [] _ _ _ _ _ RQ.hw rfl rfl rfl laidOutK mapsRowedK rfl ⟨rfl, rfl, rfl, rfl, rfl, rfl, rfl⟩ rfl rfl RQ.htie RQ.hfn Tryz.func3 RQ.hr
    RQ.hinst RQ.hwrap RQ.hstops rfl stopKnobsK.symm envWordedK
    RQ.hin RQ.hop RQ.hrc RQ.hvs RQ.hmp RQ.hif RQ.hmo RQ.hlo RQ.hwk rfl RQ.hvars rfl rfl
    rfl rfl
    rfl RQ.hmain looksK RQ.hfun (by decide) RQ.hgoes fnWordPartsQuotedKeepsEscapedNewlines_row_tie
    (OpenClaim.moreEntering_of mayEnterK RQ.m4 stopsHeardK RQ.m6 RQ.m7 RQ.m8 RQ.m9 RQ.m10 RQ.m11 RQ.m12)
    ⟨_, WideRow.started_initial, quietK _⟩
    (fun os started _ H enc _ => rq_lifted core os started H enc) ⟨RQ.hvl1, RQ.hvl2⟩
end Go.Proofs.YtnhmgjgdkcgmfaaGreatFmt
