/-
  n010_43.FnSemiOrNewlSingleLine: the card, out of what the walk says.
-/
import Derived.Test.YtmdkpihlhdjjaaaGreatFmtKCOK
namespace Go.Proofs.YtmdkpihlhdjjaaaGreatFmt
open Go.ChangeShapes Go.WideShapes Go.ChangeAt Go.RowKit Go.Kit
open Go.ChangeMaps (open_string)
open Go.Extern.Stop Go.Stop Go.Extern

theorem co_u8 {n : Int} (h : (Lit.int .u8 n).wf = true) : 0 ≤ n := by
  have h0 : IntKind.u8.min = 0 := rfl
  simp [Lit.wf] at h
  omega
theorem co_u64 {n : Int} (h : (Lit.int .u64 n).wf = true) : 0 ≤ n := by
  have h0 : IntKind.u64.min = 0 := rfl
  simp [Lit.wf] at h
  omega
section
variable {H : Type} {enc : TypeId × Value → H} {P : Program} {w : World} {base : Nat} {spare : Nat → Bool} {held : Bool}
theorem co_trod {t0 t1 t2 t3 t4 t5 t6 t7 t8 : TypeId} {args : Array Value} {ds : List (DataW H)} {ps : List MemPlace} (h : DataW.TrodAll enc P w base spare held [t0, t1, t2, t3, t4, t5, t6, t7, t8] args.toList ds ps) :
    ∃ v0 v1 v2 v3 v4 v5 v6 v7 v8 d0 d1 d2 d3 d4 d5 d6 d7 d8 p0 p1 p2 p3 p4 p5 p6 p7 p8, args = #[v0, v1, v2, v3, v4, v5, v6, v7, v8] ∧ ds = [d0, d1, d2, d3, d4, d5, d6, d7, d8] ∧ ps = p0 ++ p1 ++ p2 ++ p3 ++ p4 ++ p5 ++ p6 ++ p7 ++ p8 ∧ DataW.Trod enc P w base spare held t0 v0 d0 p0 ∧ DataW.Trod enc P w base spare held t1 v1 d1 p1 ∧ DataW.Trod enc P w base spare held t2 v2 d2 p2 ∧ DataW.Trod enc P w base spare held t3 v3 d3 p3 ∧ DataW.Trod enc P w base spare held t4 v4 d4 p4 ∧ DataW.Trod enc P w base spare held t5 v5 d5 p5 ∧ DataW.Trod enc P w base spare held t6 v6 d6 p6 ∧ DataW.Trod enc P w base spare held t7 v7 d7 p7 ∧ DataW.Trod enc P w base spare held t8 v8 d8 p8 := by
  obtain ⟨v0, vs0, d0, ds0, p0, q0, hargs, rfl, rfl, h0, r0⟩ := trodAll_cons h
  obtain ⟨v1, vs1, d1, ds1, p1, q1, rfl, rfl, rfl, h1, r1⟩ := trodAll_cons r0
  obtain ⟨v2, vs2, d2, ds2, p2, q2, rfl, rfl, rfl, h2, r2⟩ := trodAll_cons r1
  obtain ⟨v3, vs3, d3, ds3, p3, q3, rfl, rfl, rfl, h3, r3⟩ := trodAll_cons r2
  obtain ⟨v4, vs4, d4, ds4, p4, q4, rfl, rfl, rfl, h4, r4⟩ := trodAll_cons r3
  obtain ⟨v5, vs5, d5, ds5, p5, q5, rfl, rfl, rfl, h5, r5⟩ := trodAll_cons r4
  obtain ⟨v6, vs6, d6, ds6, p6, q6, rfl, rfl, rfl, h6, r6⟩ := trodAll_cons r5
  obtain ⟨v7, vs7, d7, ds7, p7, q7, rfl, rfl, rfl, h7, r7⟩ := trodAll_cons r6
  obtain ⟨v8, vs8, d8, ds8, p8, q8, rfl, rfl, rfl, h8, r8⟩ := trodAll_cons r7
  obtain ⟨rfl, rfl, rfl⟩ := trodAll_nil r8
  exact ⟨v0, v1, v2, v3, v4, v5, v6, v7, v8, d0, d1, d2, d3, d4, d5, d6, d7, d8, p0, p1, p2, p3, p4, p5, p6, p7, p8, by cases args; simp_all, rfl, by simp, h0, h1, h2, h3, h4, h5, h6, h7, h8⟩
end

def COCore : Prop := ∀ (b0 : Bool) (k1 : Nat) (k2 : Nat) (k3 : Nat) (k4 : Nat) (b5 : Bool) (b6 : Bool) (s7 : ByteArray) (k8 : Nat) (W : World), s7.size ≤ maxLen → Calls Tryz.prog 6 #[.bool b0, .int .u64 (k1 : Int), .int .u64 (k2 : Int), .int .u64 (k3 : Int), .int .u8 (k4 : Int), .bool b5, .bool b6, .string s7, .int .u64 (k8 : Int)] W fun e W' => e = .returned (.bool true) ∧ Below W.heap.size W W'

set_option maxRecDepth 1000000 in
set_option maxHeartbeats 1600000 in
theorem co_lifted (core : COCore) (os : Os) (started : os.Started) (H : Type) (enc : TypeId × Value → H) :
    ReturnsInTold none {} Tryz.checked os 6 .any Input.okWide ((OpenSpec.ofChange Rows.fnSemiOrNewlSingleLineSpec).preRow enc Tryz.prog Tryz.f6 [] false Rows.fnSemiOrNewlSingleLineRow.laid)
      (fun F => ((OpenSpec.ofChange Rows.fnSemiOrNewlSingleLineSpec).at F.told).post enc Tryz.prog Tryz.f6 false Rows.fnSemiOrNewlSingleLineRow.fresh Rows.fnSemiOrNewlSingleLineRow.handsOn false) (aloneAtReturn Tryz.prog) nothingAlways := by
  refine returnsInTold_of_row (C := Tryz.checked) (s := OpenSpec.ofChange Rows.fnSemiOrNewlSingleLineSpec) (by kernel_rfl) ownK started (by kernel_rfl) Tryz.func6
    (OpenSpec.witness_stopped_atRef (enc := enc) (C := Tryz.checked) false (laidWorld os) #[.bool false, .int .u64 0, .int .u64 0, .int .u64 0, .int .u8 0, .bool false, .bool false, .string ⟨#[]⟩, .int .u64 0] rfl (by kernel_rfl) (by kernel_rfl) (by kernel_rfl)
      (OpenSpec.preRow_of_B rfl 8 (by kernel_rfl) (by kernel_rfl) (laid_met os _))) ?_
  intro F W base0 args ds gs before _ hF hval0 hW _ _ _ hL _
  have hval : ∀ (j : Nat) t v, Tryz.f6.params[j]? = some t → args[j]? = some v → Value.okWide Tryz.prog W .any base0 t v := hval0
  have hW' := hW
  obtain ⟨p, q, hA0, hV0, rfl, hfz, hnd⟩ := hW
  have hA : DataW.TrodAll enc Tryz.prog W 0 (fun _ => true) true Tryz.f6.params.toList args.toList ds p := hA0
  rw [Tryz.params6] at hA hval
  obtain ⟨v0, v1, v2, v3, v4, v5, v6, v7, v8, d0, d1, d2, d3, d4, d5, d6, d7, d8, p0, p1, p2, p3, p4, p5, p6, p7, p8, rfl, rfl, rfl, h0, h1, h2, h3, h4, h5, h6, h7, h8⟩ := co_trod hA
  obtain ⟨b0, rfl, rfl, rfl⟩ := open_bool Tryz.underlying4 (hval 0 4 v0 rfl rfl) h0
  obtain ⟨n1, rfl, rfl, rfl, hw1⟩ := open_int Tryz.underlying22 (hval 1 22 v1 rfl rfl) h1
  obtain ⟨k1, rfl⟩ := Int.eq_ofNat_of_zero_le (co_u64 hw1)
  obtain ⟨n2, rfl, rfl, rfl, hw2⟩ := open_int Tryz.underlying22 (hval 2 22 v2 rfl rfl) h2
  obtain ⟨k2, rfl⟩ := Int.eq_ofNat_of_zero_le (co_u64 hw2)
  obtain ⟨n3, rfl, rfl, rfl, hw3⟩ := open_int Tryz.underlying22 (hval 3 22 v3 rfl rfl) h3
  obtain ⟨k3, rfl⟩ := Int.eq_ofNat_of_zero_le (co_u64 hw3)
  obtain ⟨n4, rfl, rfl, rfl, hw4⟩ := open_int Tryz.underlying5 (hval 4 5 v4 rfl rfl) h4
  obtain ⟨k4, rfl⟩ := Int.eq_ofNat_of_zero_le (co_u8 hw4)
  obtain ⟨b5, rfl, rfl, rfl⟩ := open_bool Tryz.underlying4 (hval 5 4 v5 rfl rfl) h5
  obtain ⟨b6, rfl, rfl, rfl⟩ := open_bool Tryz.underlying4 (hval 6 4 v6 rfl rfl) h6
  obtain ⟨s7, rfl, rfl, rfl, hs7⟩ := open_string Tryz.underlying9 (hval 7 9 v7 rfl rfl) h7
  obtain ⟨n8, rfl, rfl, rfl, hw8⟩ := open_int Tryz.underlying22 (hval 8 22 v8 rfl rfl) h8
  obtain ⟨k8, rfl⟩ := Int.eq_ofNat_of_zero_le (co_u64 hw8)
  obtain ⟨_, _, _, _, g1, _, hgs, _⟩ := trodVars_one hV0
  refine (core b0 k1 k2 k3 k4 b5 b6 s7 k8 W hs7).mono fun e W' ⟨he, hB⟩ => ?_
  subst he
  refine ⟨_, rfl, truth_post laidOutK (by kernel_rfl) (by kernel_rfl) (tb := 4) (by kernel_rfl) Tryz.underlying4 hW' ?_ hB _⟩
  rw [hgs]
  rfl

set_option maxRecDepth 1000000 in
theorem co_holds (core : COCore) : Rows.FnSemiOrNewlSingleLineToldSaid :=
  Claim7.holds_of_told_tied_any_at .later 6 Tryz.f6 "fmt.errorf, its operands' methods called" ["fmt.Sprintf, its operands' methods called"] [] _ _ _ _ _ CO.hw rfl rfl rfl laidOutK mapsRowedK rfl ⟨rfl, rfl, rfl, rfl, rfl, rfl, rfl⟩ rfl rfl CO.htie CO.hfn Tryz.func6 CO.hr
    CO.hinst CO.hwrap CO.hstops rfl stopKnobsK.symm envWordedK
    CO.hin CO.hop CO.hrc CO.hvs CO.hmp CO.hif CO.hmo CO.hlo CO.hwk rfl CO.hvars rfl rfl
    rfl rfl
    rfl CO.hmain looksK CO.hfun (by decide) CO.hgoes fnSemiOrNewlSingleLine_row_tie
    (OpenClaim.moreEntering_of mayEnterK CO.m4 stopsHeardK CO.m6 CO.m7 CO.m8 CO.m9 CO.m10 CO.m11 CO.m12)
    ⟨_, WideRow.started_initial, quietK _⟩
    (fun os started _ H enc _ => co_lifted core os started H enc) ⟨CO.hvl1, CO.hvl2⟩
end Go.Proofs.YtmdkpihlhdjjaaaGreatFmt
