/-
  n010_157.FnFlushCommentsLayout: the card, out of what the walk says.
-/
import Derived.Test.YtmdkpihlhdjjaaaGreatFmtKFLK
import Derived.Test.YtmdkpihlhdjjaaaGreatFmtKLaidX
import Derived.Test.YtmdkpihlhdjjaaaGreatFmtKTb
namespace Go.Proofs.YtmdkpihlhdjjaaaGreatFmt
open Go.ChangeShapes Go.WideShapes Go.ChangeAt Go.RowKit Go.Kit
open Go.ChangeMaps (open_string)
open Go.Extern.Stop Go.Stop Go.Extern

theorem fl_u8 {n : Int} (h : (Lit.int .u8 n).wf = true) : 0 ≤ n := by
  have h0 : IntKind.u8.min = 0 := rfl
  simp [Lit.wf] at h
  omega
theorem fl_u64 {n : Int} (h : (Lit.int .u64 n).wf = true) : 0 ≤ n := by
  have h0 : IntKind.u64.min = 0 := rfl
  simp [Lit.wf] at h
  omega
section
variable {H : Type} {enc : TypeId × Value → H} {P : Program} {w : World} {base : Nat} {spare : Nat → Bool} {held : Bool}
theorem fl_trod {t0 t1 t2 t3 t4 t5 t6 t7 t8 : TypeId} {args : Array Value} {ds : List (DataW H)} {ps : List MemPlace} (h : DataW.TrodAll enc P w base spare held [t0, t1, t2, t3, t4, t5, t6, t7, t8] args.toList ds ps) :
    ∃ v0 v1 v2 v3 v4 v5 v6 v7 v8 d0 d1 d2 d3 d4 d5 d6 d7 d8 p0 p1 p2 p3 p4 p5 p6 p7 p8, args = #[v0, v1, v2, v3, v4, v5, v6, v7, v8] ∧ ds = [d0, d1, d2, d3, d4, d5, d6, d7, d8] ∧ ps = p0 ++ p1 ++ p2 ++ p3 ++ p4 ++ p5 ++ p6 ++ p7 ++ p8 ∧ DataW.Trod enc P w base spare held t0 v0 d0 p0 ∧ DataW.Trod enc P w base spare held t1 v1 d1 p1 ∧ DataW.Trod enc P w base spare held t2 v2 d2 p2 ∧ DataW.Trod enc P w base spare held t3 v3 d3 p3 ∧ DataW.Trod enc P w base spare held t4 v4 d4 p4 ∧ DataW.Trod enc P w base spare held t5 v5 d5 p5 ∧ DataW.Trod enc P w base spare held t6 v6 d6 p6 ∧ DataW.Trod enc P w base spare held t7 v7 d7 p7 ∧ DataW.Trod enc P w base spare held t8 v8 d8 p8 := by
  obtain ⟨v0, vs0, d0, ds0, p0, q0, hargs, rfl, rfl, h0, r0⟩ := trodAll_cons h
  obtain ⟨v1, vs1, d1, ds1, p1, q1, rfl, rfl, rfl, h1, r1⟩ := trodAll_cons r0
  obtain ⟨v2, vs2, d2, ds2, p2, q2, rfl, rfl, rfl, h2, r2⟩ := trodAll_cons r1
  obtain ⟨v3, vs3, d3, ds3, p3, q3, rfl, rfl, rfl, h3, r3⟩ := trodAll_cons r2
  obtain ⟨v4, vs4, d4, ds4, p4, q4, rfl, rfl, rfl, h4, r4⟩ := trodAll_cons r3
  obtain ⟨v5, vs5, d5, ds5, p5, q5, rfl, rfl, rfl, h5, r5⟩ := trodAll_cons r4
  obtain ⟨v6, vs6, d6, ds6, p6, q6, rfl, rfl, rfl, h6, r6⟩ := trodAll_cons r5
  obtain ⟨v7, vs7, d7, ds7, p7, q7, rfl, rfl, rfl, h7, r7⟩ := trodAll_cons r6
  obtain ⟨v8, vs8, d8, ds8, p8, q8, rfl, rfl, rfl, h8, r8⟩ := trodAll_cons r7
  obtain ⟨rfl, rfl, rfl⟩ := trodAll_nil r8
  exact ⟨v0, v1, v2, v3, v4, v5, v6, v7, v8, d0, d1, d2, d3, d4, d5, d6, d7, d8, p0, p1, p2, p3, p4, p5, p6, p7, p8, by cases args; simp_all, rfl, by simp, h0, h1, h2, h3, h4, h5, h6, h7, h8⟩
end

def FLCore : Prop := ∀ (x0 : Value) (L0 : List Nat) (x1 : Value) (L1 : List ByteArray) (b2 : Bool) (b3 : Bool) (b4 : Bool) (k5 : Nat) (k6 : Nat) (k7 : Nat) (k8 : Nat) (W : World), UintsRd W x0 L0 → L0.length ≤ maxLen → StrsRd W x1 L1 → L1.length ≤ maxLen → Lib.Utf8Tabs 2 3 W → Lib.WhiteTab 0 W → Calls Tryz.prog 5 #[x0, x1, .bool b2, .bool b3, .bool b4, .int .u8 (k5 : Int), .int .u64 (k6 : Int), .int .u64 (k7 : Int), .int .u64 (k8 : Int)] W fun e W' => e = .returned (.bool true) ∧ Below W.heap.size W W'

set_option maxRecDepth 1000000 in
set_option maxHeartbeats 1600000 in
theorem fl_lifted (core : FLCore) (os : Os) (started : os.Started) (H : Type) (enc : TypeId × Value → H) :
    ReturnsInTold none {} Tryz.checked os 5 .any Input.okWide ((OpenSpec.ofChange Rows.fnFlushCommentsLayoutSpec).preRow enc Tryz.prog Tryz.f5 [] false Rows.fnFlushCommentsLayoutRow.laid)
      (fun F => ((OpenSpec.ofChange Rows.fnFlushCommentsLayoutSpec).at F.told).post enc Tryz.prog Tryz.f5 false Rows.fnFlushCommentsLayoutRow.fresh Rows.fnFlushCommentsLayoutRow.handsOn false) (aloneAtReturn Tryz.prog) nothingAlways := by
  refine returnsInTold_of_row (C := Tryz.checked) (s := OpenSpec.ofChange Rows.fnFlushCommentsLayoutSpec) (by kernel_rfl) ownK started (by kernel_rfl) Tryz.func5
    (OpenSpec.witness_stopped_atRef (enc := enc) (C := Tryz.checked) false (laidWorld os) #[.slice none 0 0, .slice none 0 0, .bool false, .bool false, .bool false, .int .u8 0, .int .u64 0, .int .u64 0, .int .u64 0] rfl (by kernel_rfl) (by kernel_rfl) (by kernel_rfl)
      (OpenSpec.preRow_of_B rfl 8 (by kernel_rfl) (by kernel_rfl) (laid_met os _))) ?_
  intro F W base0 args ds gs before _ hF hval0 hW _ _ _ hL _
  have hval : ∀ (j : Nat) t v, Tryz.f5.params[j]? = some t → args[j]? = some v → Value.okWide Tryz.prog W .any base0 t v := hval0
  have hW' := hW
  obtain ⟨p, q, hA0, hV0, rfl, hfz, hnd⟩ := hW
  have hA : DataW.TrodAll enc Tryz.prog W 0 (fun _ => true) true Tryz.f5.params.toList args.toList ds p := hA0
  rw [Tryz.params5] at hA hval
  obtain ⟨v0, v1, v2, v3, v4, v5, v6, v7, v8, d0, d1, d2, d3, d4, d5, d6, d7, d8, p0, p1, p2, p3, p4, p5, p6, p7, p8, rfl, rfl, rfl, h0, h1, h2, h3, h4, h5, h6, h7, h8⟩ := fl_trod hA
  obtain ⟨vo0, vn0, vc0, rfl⟩ := okWide_slice Tryz.underlying43 (hval 0 43 v0 rfl rfl)
  obtain ⟨fuel0, hf0⟩ := h0
  obtain ⟨L0, hr0, hm0⟩ := uints_of_trod hf0
  obtain ⟨vo1, vn1, vc1, rfl⟩ := okWide_slice Tryz.underlying44 (hval 1 44 v1 rfl rfl)
  obtain ⟨fuel1, hf1⟩ := h1
  obtain ⟨L1, hr1, hm1⟩ := strs_of_trod hf1
  obtain ⟨b2, rfl, rfl, rfl⟩ := open_bool Tryz.underlying4 (hval 2 4 v2 rfl rfl) h2
  obtain ⟨b3, rfl, rfl, rfl⟩ := open_bool Tryz.underlying4 (hval 3 4 v3 rfl rfl) h3
  obtain ⟨b4, rfl, rfl, rfl⟩ := open_bool Tryz.underlying4 (hval 4 4 v4 rfl rfl) h4
  obtain ⟨n5, rfl, rfl, rfl, hw5⟩ := open_int Tryz.underlying5 (hval 5 5 v5 rfl rfl) h5
  obtain ⟨k5, rfl⟩ := Int.eq_ofNat_of_zero_le (fl_u8 hw5)
  obtain ⟨n6, rfl, rfl, rfl, hw6⟩ := open_int Tryz.underlying22 (hval 6 22 v6 rfl rfl) h6
  obtain ⟨k6, rfl⟩ := Int.eq_ofNat_of_zero_le (fl_u64 hw6)
  obtain ⟨n7, rfl, rfl, rfl, hw7⟩ := open_int Tryz.underlying22 (hval 7 22 v7 rfl rfl) h7
  obtain ⟨k7, rfl⟩ := Int.eq_ofNat_of_zero_le (fl_u64 hw7)
  obtain ⟨n8, rfl, rfl, rfl, hw8⟩ := open_int Tryz.underlying22 (hval 8 22 v8 rfl rfl) h8
  obtain ⟨k8, rfl⟩ := Int.eq_ofNat_of_zero_le (fl_u64 hw8)
  obtain ⟨ht1, ht2⟩ := tabs_of_laid hL
  obtain ⟨_, _, _, _, g1, _, hgs, _⟩ := trodVars_one hV0
  refine (core _ L0 _ L1 b2 b3 b4 k5 k6 k7 k8 W hr0 hm0 hr1 hm1 ht1 ht2).mono fun e W' ⟨he, hB⟩ => ?_
  subst he
  refine ⟨_, rfl, truth_post laidOutK (by kernel_rfl) (by kernel_rfl) (tb := 4) (by kernel_rfl) Tryz.underlying4 hW' ?_ hB _⟩
  rw [hgs]
  rfl

set_option maxRecDepth 1000000 in
theorem fl_holds (core : FLCore) : Rows.FnFlushCommentsLayoutToldSaid :=
  Claim7.holds_of_told_tied_any_at .later 5 Tryz.f5 "fmt.errorf, its operands' methods called" ["fmt.Sprintf, its operands' methods called"] [] _ _ _ _ _ FL.hw rfl rfl rfl laidOutK mapsRowedK rfl ⟨rfl, rfl, rfl, rfl, rfl, rfl, rfl⟩ rfl rfl FL.htie FL.hfn Tryz.func5 FL.hr
    FL.hinst FL.hwrap FL.hstops rfl stopKnobsK.symm envWordedK
    FL.hin FL.hop FL.hrc FL.hvs FL.hmp FL.hif FL.hmo FL.hlo FL.hwk rfl FL.hvars rfl rfl
    rfl rfl
    rfl FL.hmain looksK FL.hfun (by decide) FL.hgoes fnFlushCommentsLayout_row_tie
    (OpenClaim.moreEntering_of mayEnterK FL.m4 stopsHeardK FL.m6 FL.m7 FL.m8 FL.m9 FL.m10 FL.m11 FL.m12)
    ⟨_, WideRow.started_initial, quietK _⟩
    (fun os started _ H enc _ => fl_lifted core os started H enc) ⟨FL.hvl1, FL.hvl2⟩
end Go.Proofs.YtmdkpihlhdjjaaaGreatFmt
