/-
  n010_157.FnFlushCommentsSecondCallSilent: the card, out of what the walk says.
-/
import Derived.Test.YtmdkpihlhdjjaaaGreatFmtKFTK
import Derived.Test.YtmdkpihlhdjjaaaGreatFmtKLaidX
import Derived.Test.YtmdkpihlhdjjaaaGreatFmtKTb
namespace Go.Proofs.YtmdkpihlhdjjaaaGreatFmt
open Go.ChangeShapes Go.WideShapes Go.ChangeAt Go.RowKit Go.Kit
open Go.ChangeMaps (open_string)
open Go.Extern.Stop Go.Stop Go.Extern

theorem ft_u8 {n : Int} (h : (Lit.int .u8 n).wf = true) : 0 ≤ n := by
  have h0 : IntKind.u8.min = 0 := rfl
  simp [Lit.wf] at h
  omega
theorem ft_u64 {n : Int} (h : (Lit.int .u64 n).wf = true) : 0 ≤ n := by
  have h0 : IntKind.u64.min = 0 := rfl
  simp [Lit.wf] at h
  omega
section
variable {H : Type} {enc : TypeId × Value → H} {P : Program} {w : World} {base : Nat} {spare : Nat → Bool} {held : Bool}
theorem ft_trod {t0 t1 t2 t3 t4 t5 t6 t7 t8 t9 t10 t11 : TypeId} {args : Array Value} {ds : List (DataW H)} {ps : List MemPlace} (h : DataW.TrodAll enc P w base spare held [t0, t1, t2, t3, t4, t5, t6, t7, t8, t9, t10, t11] args.toList ds ps) :
    ∃ v0 v1 v2 v3 v4 v5 v6 v7 v8 v9 v10 v11 d0 d1 d2 d3 d4 d5 d6 d7 d8 d9 d10 d11 p0 p1 p2 p3 p4 p5 p6 p7 p8 p9 p10 p11, args = #[v0, v1, v2, v3, v4, v5, v6, v7, v8, v9, v10, v11] ∧ ds = [d0, d1, d2, d3, d4, d5, d6, d7, d8, d9, d10, d11] ∧ ps = p0 ++ p1 ++ p2 ++ p3 ++ p4 ++ p5 ++ p6 ++ p7 ++ p8 ++ p9 ++ p10 ++ p11 ∧ DataW.Trod enc P w base spare held t0 v0 d0 p0 ∧ DataW.Trod enc P w base spare held t1 v1 d1 p1 ∧ DataW.Trod enc P w base spare held t2 v2 d2 p2 ∧ DataW.Trod enc P w base spare held t3 v3 d3 p3 ∧ DataW.Trod enc P w base spare held t4 v4 d4 p4 ∧ DataW.Trod enc P w base spare held t5 v5 d5 p5 ∧ DataW.Trod enc P w base spare held t6 v6 d6 p6 ∧ DataW.Trod enc P w base spare held t7 v7 d7 p7 ∧ DataW.Trod enc P w base spare held t8 v8 d8 p8 ∧ DataW.Trod enc P w base spare held t9 v9 d9 p9 ∧ DataW.Trod enc P w base spare held t10 v10 d10 p10 ∧ DataW.Trod enc P w base spare held t11 v11 d11 p11 := by
  obtain ⟨v0, vs0, d0, ds0, p0, q0, hargs, rfl, rfl, h0, r0⟩ := trodAll_cons h
  obtain ⟨v1, vs1, d1, ds1, p1, q1, rfl, rfl, rfl, h1, r1⟩ := trodAll_cons r0
  obtain ⟨v2, vs2, d2, ds2, p2, q2, rfl, rfl, rfl, h2, r2⟩ := trodAll_cons r1
  obtain ⟨v3, vs3, d3, ds3, p3, q3, rfl, rfl, rfl, h3, r3⟩ := trodAll_cons r2
  obtain ⟨v4, vs4, d4, ds4, p4, q4, rfl, rfl, rfl, h4, r4⟩ := trodAll_cons r3
  obtain ⟨v5, vs5, d5, ds5, p5, q5, rfl, rfl, rfl, h5, r5⟩ := trodAll_cons r4
  obtain ⟨v6, vs6, d6, ds6, p6, q6, rfl, rfl, rfl, h6, r6⟩ := trodAll_cons r5
  obtain ⟨v7, vs7, d7, ds7, p7, q7, rfl, rfl, rfl, h7, r7⟩ := trodAll_cons r6
  obtain ⟨v8, vs8, d8, ds8, p8, q8, rfl, rfl, rfl, h8, r8⟩ := trodAll_cons r7
  obtain ⟨v9, vs9, d9, ds9, p9, q9, rfl, rfl, rfl, h9, r9⟩ := trodAll_cons r8
  obtain ⟨v10, vs10, d10, ds10, p10, q10, rfl, rfl, rfl, h10, r10⟩ := trodAll_cons r9
  obtain ⟨v11, vs11, d11, ds11, p11, q11, rfl, rfl, rfl, h11, r11⟩ := trodAll_cons r10
  obtain ⟨rfl, rfl, rfl⟩ := trodAll_nil r11
  exact ⟨v0, v1, v2, v3, v4, v5, v6, v7, v8, v9, v10, v11, d0, d1, d2, d3, d4, d5, d6, d7, d8, d9, d10, d11, p0, p1, p2, p3, p4, p5, p6, p7, p8, p9, p10, p11, by cases args; simp_all, rfl, by simp, h0, h1, h2, h3, h4, h5, h6, h7, h8, h9, h10, h11⟩
end

def FTCore : Prop := ∀ (x0 : Value) (L0 : List Nat) (x1 : Value) (L1 : List ByteArray) (b2 : Bool) (b3 : Bool) (b4 : Bool) (b5 : Bool) (b6 : Bool) (b7 : Bool) (k8 : Nat) (k9 : Nat) (k10 : Nat) (k11 : Nat) (W : World), UintsRd W x0 L0 → L0.length ≤ maxLen → StrsRd W x1 L1 → L1.length ≤ maxLen → Lib.Utf8Tabs 2 3 W → Lib.WhiteTab 0 W → Calls Tryz.prog 4 #[x0, x1, .bool b2, .bool b3, .bool b4, .bool b5, .bool b6, .bool b7, .int .u8 (k8 : Int), .int .u64 (k9 : Int), .int .u64 (k10 : Int), .int .u64 (k11 : Int)] W fun e W' => e = .returned (.bool true) ∧ Below W.heap.size W W'

set_option maxRecDepth 1000000 in
set_option maxHeartbeats 1600000 in
theorem ft_lifted (core : FTCore) (os : Os) (started : os.Started) (H : Type) (enc : TypeId × Value → H) :
    ReturnsInTold none {} Tryz.checked os 4 .any Input.okWide ((OpenSpec.ofChange Rows.fnFlushCommentsSecondCallSilentSpec).preRow enc Tryz.prog Tryz.f4 [] false Rows.fnFlushCommentsSecondCallSilentRow.laid)
      (fun F => ((OpenSpec.ofChange Rows.fnFlushCommentsSecondCallSilentSpec).at F.told).post enc Tryz.prog Tryz.f4 false Rows.fnFlushCommentsSecondCallSilentRow.fresh Rows.fnFlushCommentsSecondCallSilentRow.handsOn false) (aloneAtReturn Tryz.prog) nothingAlways := by
  refine returnsInTold_of_row (C := Tryz.checked) (s := OpenSpec.ofChange Rows.fnFlushCommentsSecondCallSilentSpec) (by kernel_rfl) ownK started (by kernel_rfl) Tryz.func4
    (OpenSpec.witness_stopped_atRef (enc := enc) (C := Tryz.checked) false (laidWorld os) #[.slice none 0 0, .slice none 0 0, .bool false, .bool false, .bool false, .bool false, .bool false, .bool false, .int .u8 0, .int .u64 0, .int .u64 0, .int .u64 0] rfl (by kernel_rfl) (by kernel_rfl) (by kernel_rfl)
      (OpenSpec.preRow_of_B rfl 8 (by kernel_rfl) (by kernel_rfl) (laid_met os _))) ?_
  intro F W base0 args ds gs before _ hF hval0 hW _ _ _ hL _
  have hval : ∀ (j : Nat) t v, Tryz.f4.params[j]? = some t → args[j]? = some v → Value.okWide Tryz.prog W .any base0 t v := hval0
  have hW' := hW
  obtain ⟨p, q, hA0, hV0, rfl, hfz, hnd⟩ := hW
  have hA : DataW.TrodAll enc Tryz.prog W 0 (fun _ => true) true Tryz.f4.params.toList args.toList ds p := hA0
  rw [Tryz.params4] at hA hval
  obtain ⟨v0, v1, v2, v3, v4, v5, v6, v7, v8, v9, v10, v11, d0, d1, d2, d3, d4, d5, d6, d7, d8, d9, d10, d11, p0, p1, p2, p3, p4, p5, p6, p7, p8, p9, p10, p11, rfl, rfl, rfl, h0, h1, h2, h3, h4, h5, h6, h7, h8, h9, h10, h11⟩ := ft_trod hA
  obtain ⟨vo0, vn0, vc0, rfl⟩ := okWide_slice Tryz.underlying43 (hval 0 43 v0 rfl rfl)
  obtain ⟨fuel0, hf0⟩ := h0
  obtain ⟨L0, hr0, hm0⟩ := uints_of_trod hf0
  obtain ⟨vo1, vn1, vc1, rfl⟩ := okWide_slice Tryz.underlying44 (hval 1 44 v1 rfl rfl)
  obtain ⟨fuel1, hf1⟩ := h1
  obtain ⟨L1, hr1, hm1⟩ := strs_of_trod hf1
  obtain ⟨b2, rfl, rfl, rfl⟩ := open_bool Tryz.underlying4 (hval 2 4 v2 rfl rfl) h2
  obtain ⟨b3, rfl, rfl, rfl⟩ := open_bool Tryz.underlying4 (hval 3 4 v3 rfl rfl) h3
  obtain ⟨b4, rfl, rfl, rfl⟩ := open_bool Tryz.underlying4 (hval 4 4 v4 rfl rfl) h4
  obtain ⟨b5, rfl, rfl, rfl⟩ := open_bool Tryz.underlying4 (hval 5 4 v5 rfl rfl) h5
  obtain ⟨b6, rfl, rfl, rfl⟩ := open_bool Tryz.underlying4 (hval 6 4 v6 rfl rfl) h6
  obtain ⟨b7, rfl, rfl, rfl⟩ := open_bool Tryz.underlying4 (hval 7 4 v7 rfl rfl) h7
  obtain ⟨n8, rfl, rfl, rfl, hw8⟩ := open_int Tryz.underlying5 (hval 8 5 v8 rfl rfl) h8
  obtain ⟨k8, rfl⟩ := Int.eq_ofNat_of_zero_le (ft_u8 hw8)
  obtain ⟨n9, rfl, rfl, rfl, hw9⟩ := open_int Tryz.underlying22 (hval 9 22 v9 rfl rfl) h9
  obtain ⟨k9, rfl⟩ := Int.eq_ofNat_of_zero_le (ft_u64 hw9)
  obtain ⟨n10, rfl, rfl, rfl, hw10⟩ := open_int Tryz.underlying22 (hval 10 22 v10 rfl rfl) h10
  obtain ⟨k10, rfl⟩ := Int.eq_ofNat_of_zero_le (ft_u64 hw10)
  obtain ⟨n11, rfl, rfl, rfl, hw11⟩ := open_int Tryz.underlying22 (hval 11 22 v11 rfl rfl) h11
  obtain ⟨k11, rfl⟩ := Int.eq_ofNat_of_zero_le (ft_u64 hw11)
  obtain ⟨ht1, ht2⟩ := tabs_of_laid hL
  obtain ⟨_, _, _, _, g1, _, hgs, _⟩ := trodVars_one hV0
  refine (core _ L0 _ L1 b2 b3 b4 b5 b6 b7 k8 k9 k10 k11 W hr0 hm0 hr1 hm1 ht1 ht2).mono fun e W' ⟨he, hB⟩ => ?_
  subst he
  refine ⟨_, rfl, truth_post laidOutK (by kernel_rfl) (by kernel_rfl) (tb := 4) (by kernel_rfl) Tryz.underlying4 hW' ?_ hB _⟩
  rw [hgs]
  rfl

set_option maxRecDepth 1000000 in
theorem ft_holds (core : FTCore) : Rows.FnFlushCommentsSecondCallSilentToldSaid :=
  Claim7.holds_of_told_tied_any_at .later 4 Tryz.f4 "fmt.errorf, its operands' methods called" ["fmt.Sprintf, its operands' methods called"] [] _ _ _ _ _ FT.hw rfl rfl rfl laidOutK mapsRowedK rfl ⟨rfl, rfl, rfl, rfl, rfl, rfl, rfl⟩ rfl rfl FT.htie FT.hfn Tryz.func4 FT.hr
    FT.hinst FT.hwrap FT.hstops rfl stopKnobsK.symm envWordedK
    FT.hin FT.hop FT.hrc FT.hvs FT.hmp FT.hif FT.hmo FT.hlo FT.hwk rfl FT.hvars rfl rfl
    rfl rfl
    rfl FT.hmain looksK FT.hfun (by decide) FT.hgoes fnFlushCommentsSecondCallSilent_row_tie
    (OpenClaim.moreEntering_of mayEnterK FT.m4 stopsHeardK FT.m6 FT.m7 FT.m8 FT.m9 FT.m10 FT.m11 FT.m12)
    ⟨_, WideRow.started_initial, quietK _⟩
    (fun os started _ H enc _ => ft_lifted core os started H enc) ⟨FT.hvl1, FT.hvl2⟩
end Go.Proofs.YtmdkpihlhdjjaaaGreatFmt
