/-
  n010_157.FnClosingParenAgreesWithRightParen: the card, out of what the walk says.
-/
import Derived.Test.YtgcoopjkjeoflaaGreatFmtRCAK
namespace Go.Proofs.YtgcoopjkjeoflaaGreatFmtR
open Go.ChangeShapes Go.WideShapes Go.ChangeAt Go.RowKit Go.Kit
open Go.ChangeMaps (open_string)
open Go.Extern.Stop Go.Stop Go.Extern

theorem ca_u8 {n : Int} (h : (Lit.int .u8 n).wf = true) : 0 ≤ n := by
  have h0 : IntKind.u8.min = 0 := rfl
  simp [Lit.wf] at h
  omega
theorem ca_u64 {n : Int} (h : (Lit.int .u64 n).wf = true) : 0 ≤ n := by
  have h0 : IntKind.u64.min = 0 := rfl
  simp [Lit.wf] at h
  omega
section
variable {H : Type} {enc : TypeId × Value → H} {P : Program} {w : World} {base : Nat} {spare : Nat → Bool} {held : Bool}
theorem ca_trod {t0 t1 t2 t3 t4 t5 t6 t7 t8 t9 : TypeId} {args : Array Value} {ds : List (DataW H)} {ps : List MemPlace} (h : DataW.TrodAll enc P w base spare held [t0, t1, t2, t3, t4, t5, t6, t7, t8, t9] args.toList ds ps) :
    ∃ v0 v1 v2 v3 v4 v5 v6 v7 v8 v9 d0 d1 d2 d3 d4 d5 d6 d7 d8 d9 p0 p1 p2 p3 p4 p5 p6 p7 p8 p9, args = #[v0, v1, v2, v3, v4, v5, v6, v7, v8, v9] ∧ ds = [d0, d1, d2, d3, d4, d5, d6, d7, d8, d9] ∧ ps = p0 ++ p1 ++ p2 ++ p3 ++ p4 ++ p5 ++ p6 ++ p7 ++ p8 ++ p9 ∧ DataW.Trod enc P w base spare held t0 v0 d0 p0 ∧ DataW.Trod enc P w base spare held t1 v1 d1 p1 ∧ DataW.Trod enc P w base spare held t2 v2 d2 p2 ∧ DataW.Trod enc P w base spare held t3 v3 d3 p3 ∧ DataW.Trod enc P w base spare held t4 v4 d4 p4 ∧ DataW.Trod enc P w base spare held t5 v5 d5 p5 ∧ DataW.Trod enc P w base spare held t6 v6 d6 p6 ∧ DataW.Trod enc P w base spare held t7 v7 d7 p7 ∧ DataW.Trod enc P w base spare held t8 v8 d8 p8 ∧ DataW.Trod enc P w base spare held t9 v9 d9 p9 := by
  obtain ⟨v0, vs0, d0, ds0, p0, q0, hargs, rfl, rfl, h0, r0⟩ := trodAll_cons h
  obtain ⟨v1, vs1, d1, ds1, p1, q1, rfl, rfl, rfl, h1, r1⟩ := trodAll_cons r0
  obtain ⟨v2, vs2, d2, ds2, p2, q2, rfl, rfl, rfl, h2, r2⟩ := trodAll_cons r1
  obtain ⟨v3, vs3, d3, ds3, p3, q3, rfl, rfl, rfl, h3, r3⟩ := trodAll_cons r2
  obtain ⟨v4, vs4, d4, ds4, p4, q4, rfl, rfl, rfl, h4, r4⟩ := trodAll_cons r3
  obtain ⟨v5, vs5, d5, ds5, p5, q5, rfl, rfl, rfl, h5, r5⟩ := trodAll_cons r4
  obtain ⟨v6, vs6, d6, ds6, p6, q6, rfl, rfl, rfl, h6, r6⟩ := trodAll_cons r5
  obtain ⟨v7, vs7, d7, ds7, p7, q7, rfl, rfl, rfl, h7, r7⟩ := trodAll_cons r6
  obtain ⟨v8, vs8, d8, ds8, p8, q8, rfl, rfl, rfl, h8, r8⟩ := trodAll_cons r7
  obtain ⟨v9, vs9, d9, ds9, p9, q9, rfl, rfl, rfl, h9, r9⟩ := trodAll_cons r8
  obtain ⟨rfl, rfl, rfl⟩ := trodAll_nil r9
  exact ⟨v0, v1, v2, v3, v4, v5, v6, v7, v8, v9, d0, d1, d2, d3, d4, d5, d6, d7, d8, d9, p0, p1, p2, p3, p4, p5, p6, p7, p8, p9, by cases args; simp_all, rfl, by simp, h0, h1, h2, h3, h4, h5, h6, h7, h8, h9⟩
end

def CACore : Prop := ∀ (b0 : Bool) (b1 : Bool) (b2 : Bool) (b3 : Bool) (k4 : Nat) (k5 : Nat) (k6 : Nat) (k7 : Nat) (k8 : Nat) (k9 : Nat) (W : World), Calls Tryz.prog 5 #[.bool b0, .bool b1, .bool b2, .bool b3, .int .u8 (k4 : Int), .int .u64 (k5 : Int), .int .u64 (k6 : Int), .int .u64 (k7 : Int), .int .u64 (k8 : Int), .int .u64 (k9 : Int)] W fun e W' => e = .returned (.bool true) ∧ Below W.heap.size W W'

set_option maxRecDepth 1000000 in
set_option maxHeartbeats 1600000 in
theorem ca_lifted (core : CACore) (os : Os) (started : os.Started) (H : Type) (enc : TypeId × Value → H) :
    ReturnsInTold none {} Tryz.checked os 5 .any Input.okWide ((OpenSpec.ofChange Rows.fnClosingParenAgreesWithRightParenSpec).preRow enc Tryz.prog Tryz.f5 [] false Rows.fnClosingParenAgreesWithRightParenRow.laid)
      (fun F => ((OpenSpec.ofChange Rows.fnClosingParenAgreesWithRightParenSpec).at F.told).post enc Tryz.prog Tryz.f5 false Rows.fnClosingParenAgreesWithRightParenRow.fresh Rows.fnClosingParenAgreesWithRightParenRow.handsOn false) (aloneAtReturn Tryz.prog) nothingAlways := by
  refine returnsInTold_of_row (C := Tryz.checked) (s := OpenSpec.ofChange Rows.fnClosingParenAgreesWithRightParenSpec) (by kernel_rfl) ownK started (by kernel_rfl) Tryz.func5
    (OpenSpec.witness_stopped_atRef (enc := enc) (C := Tryz.checked) false (laidWorld os) #[.bool false, .bool false, .bool false, .bool false, .int .u8 0, .int .u64 0, .int .u64 0, .int .u64 0, .int .u64 0, .int .u64 0] rfl (by kernel_rfl) (by kernel_rfl) (by kernel_rfl)
      (OpenSpec.preRow_of_B rfl 8 (by kernel_rfl) (by kernel_rfl) (laid_met os _))) ?_
  intro F W base0 args ds gs before _ hF hval0 hW _ _ _ hL _
  have hval : ∀ (j : Nat) t v, Tryz.f5.params[j]? = some t → args[j]? = some v → Value.okWide Tryz.prog W .any base0 t v := hval0
  have hW' := hW
  obtain ⟨p, q, hA0, hV0, rfl, hfz, hnd⟩ := hW
  have hA : DataW.TrodAll enc Tryz.prog W 0 (fun _ => true) true Tryz.f5.params.toList args.toList ds p := hA0
  rw [Tryz.params5] at hA hval
  obtain ⟨v0, v1, v2, v3, v4, v5, v6, v7, v8, v9, d0, d1, d2, d3, d4, d5, d6, d7, d8, d9, p0, p1, p2, p3, p4, p5, p6, p7, p8, p9, rfl, rfl, rfl, h0, h1, h2, h3, h4, h5, h6, h7, h8, h9⟩ := ca_trod hA
  obtain ⟨b0, rfl, rfl, rfl⟩ := open_bool Tryz.underlying4 (hval 0 4 v0 rfl rfl) h0
  obtain ⟨b1, rfl, rfl, rfl⟩ := open_bool Tryz.underlying4 (hval 1 4 v1 rfl rfl) h1
  obtain ⟨b2, rfl, rfl, rfl⟩ := open_bool Tryz.underlying4 (hval 2 4 v2 rfl rfl) h2
  obtain ⟨b3, rfl, rfl, rfl⟩ := open_bool Tryz.underlying4 (hval 3 4 v3 rfl rfl) h3
  obtain ⟨n4, rfl, rfl, rfl, hw4⟩ := open_int Tryz.underlying5 (hval 4 5 v4 rfl rfl) h4
  obtain ⟨k4, rfl⟩ := Int.eq_ofNat_of_zero_le (ca_u8 hw4)
  obtain ⟨n5, rfl, rfl, rfl, hw5⟩ := open_int Tryz.underlying22 (hval 5 22 v5 rfl rfl) h5
  obtain ⟨k5, rfl⟩ := Int.eq_ofNat_of_zero_le (ca_u64 hw5)
  obtain ⟨n6, rfl, rfl, rfl, hw6⟩ := open_int Tryz.underlying22 (hval 6 22 v6 rfl rfl) h6
  obtain ⟨k6, rfl⟩ := Int.eq_ofNat_of_zero_le (ca_u64 hw6)
  obtain ⟨n7, rfl, rfl, rfl, hw7⟩ := open_int Tryz.underlying22 (hval 7 22 v7 rfl rfl) h7
  obtain ⟨k7, rfl⟩ := Int.eq_ofNat_of_zero_le (ca_u64 hw7)
  obtain ⟨n8, rfl, rfl, rfl, hw8⟩ := open_int Tryz.underlying22 (hval 8 22 v8 rfl rfl) h8
  obtain ⟨k8, rfl⟩ := Int.eq_ofNat_of_zero_le (ca_u64 hw8)
  obtain ⟨n9, rfl, rfl, rfl, hw9⟩ := open_int Tryz.underlying22 (hval 9 22 v9 rfl rfl) h9
  obtain ⟨k9, rfl⟩ := Int.eq_ofNat_of_zero_le (ca_u64 hw9)
  obtain ⟨_, _, _, _, g1, _, hgs, _⟩ := trodVars_one hV0
  refine (core b0 b1 b2 b3 k4 k5 k6 k7 k8 k9 W).mono fun e W' ⟨he, hB⟩ => ?_
  subst he
  refine ⟨_, rfl, truth_post laidOutK (by kernel_rfl) (by kernel_rfl) (tb := 4) (by kernel_rfl) Tryz.underlying4 hW' ?_ hB _⟩
  rw [hgs]
  rfl

set_option maxRecDepth 1000000 in
theorem ca_holds (core : CACore) : Rows.FnClosingParenAgreesWithRightParenToldSaid :=
  Claim7.holds_of_told_tied_any_at .later 5 Tryz.f5 "fmt.Sprintf, its operands' methods called" [] [] _ _ _ _ _ CA.hw rfl rfl rfl laidOutK mapsRowedK rfl ⟨rfl, rfl, rfl, rfl, rfl, rfl, rfl⟩ rfl rfl CA.htie CA.hfn Tryz.func5 CA.hr
    CA.hinst CA.hwrap CA.hstops rfl stopKnobsK.symm envWordedK
    CA.hin CA.hop CA.hrc CA.hvs CA.hmp CA.hif CA.hmo CA.hlo CA.hwk rfl CA.hvars rfl rfl
    rfl rfl
    rfl CA.hmain looksK CA.hfun (by decide) CA.hgoes fnClosingParenAgreesWithRightParen_row_tie
    (OpenClaim.moreEntering_of mayEnterK CA.m4 stopsHeardK CA.m6 CA.m7 CA.m8 CA.m9 CA.m10 CA.m11 CA.m12)
    ⟨_, WideRow.started_initial, quietK _⟩
    (fun os started _ H enc _ => ca_lifted core os started H enc) ⟨CA.hvl1, CA.hvl2⟩
end Go.Proofs.YtgcoopjkjeoflaaGreatFmtR
