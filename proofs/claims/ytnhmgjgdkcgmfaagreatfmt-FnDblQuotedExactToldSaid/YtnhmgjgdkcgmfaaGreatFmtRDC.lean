/-
  n010_150.FnDblQuotedExact: the card, out of what the walk says.
-/
import Derived.Test.YtnhmgjgdkcgmfaaGreatFmtRDK
import Derived.Test.YtnhmgjgdkcgmfaaGreatFmtOpn
namespace Go.Proofs.YtnhmgjgdkcgmfaaGreatFmt
open Go.ChangeShapes Go.WideShapes Go.ChangeAt Go.RowKit Go.Kit
open Go.ChangeMaps (open_string)
open Go.Extern.Stop Go.Stop Go.Extern

theorem rd_u64 {n : Int} (h : (Lit.int .u64 n).wf = true) : 0 ≤ n := by
  have h0 : IntKind.u64.min = 0 := rfl
  simp [Lit.wf] at h
  omega
section
variable {H : Type} {enc : TypeId × Value → H} {P : Program} {w : World} {base : Nat} {spare : Nat → Bool} {held : Bool}
theorem rd_trod {t0 t1 t2 t3 : TypeId} {args : Array Value} {ds : List (DataW H)} {ps : List MemPlace} (h : DataW.TrodAll enc P w base spare held [t0, t1, t2, t3] args.toList ds ps) :
    ∃ v0 v1 v2 v3 d0 d1 d2 d3 p0 p1 p2 p3, args = #[v0, v1, v2, v3] ∧ ds = [d0, d1, d2, d3] ∧ ps = p0 ++ p1 ++ p2 ++ p3 ∧ DataW.Trod enc P w base spare held t0 v0 d0 p0 ∧ DataW.Trod enc P w base spare held t1 v1 d1 p1 ∧ DataW.Trod enc P w base spare held t2 v2 d2 p2 ∧ DataW.Trod enc P w base spare held t3 v3 d3 p3 := by
  obtain ⟨v0, vs0, d0, ds0, p0, q0, hargs, rfl, rfl, h0, r0⟩ := trodAll_cons h
  obtain ⟨v1, vs1, d1, ds1, p1, q1, rfl, rfl, rfl, h1, r1⟩ := trodAll_cons r0
  obtain ⟨v2, vs2, d2, ds2, p2, q2, rfl, rfl, rfl, h2, r2⟩ := trodAll_cons r1
  obtain ⟨v3, vs3, d3, ds3, p3, q3, rfl, rfl, rfl, h3, r3⟩ := trodAll_cons r2
  obtain ⟨rfl, rfl, rfl⟩ := trodAll_nil r3
  exact ⟨v0, v1, v2, v3, d0, d1, d2, d3, p0, p1, p2, p3, by cases args; simp_all, rfl, by simp, h0, h1, h2, h3⟩
end

def RDCore : Prop := ∀ (x0 : Value) (L0 : List ByteArray) (b1 : Bool) (k2 : Nat) (k3 : Nat) (W : World), StrsRd W x0 L0 → L0.length ≤ maxLen → Calls Tryz.prog 5 #[x0, .bool b1, .int .u64 (k2 : Int), .int .u64 (k3 : Int)] W fun e W' => e = .returned (.bool true) ∧ Below W.heap.size W W'

set_option maxRecDepth 1000000 in
set_option maxHeartbeats 1600000 in
theorem rd_lifted (core : RDCore) (os : Os) (started : os.Started) (H : Type) (enc : TypeId × Value → H) :
    ReturnsInTold none {} Tryz.checked os 5 .any Input.okWide ((OpenSpec.ofChange Rows.fnDblQuotedExactSpec).preRow enc Tryz.prog Tryz.f5 [] false Rows.fnDblQuotedExactRow.laid)
      (fun F => ((OpenSpec.ofChange Rows.fnDblQuotedExactSpec).at F.told).post enc Tryz.prog Tryz.f5 false Rows.fnDblQuotedExactRow.fresh Rows.fnDblQuotedExactRow.handsOn false) (aloneAtReturn Tryz.prog) nothingAlways := by
  refine returnsInTold_of_row (C := Tryz.checked) (s := OpenSpec.ofChange Rows.fnDblQuotedExactSpec) (by kernel_rfl) ownK started (by kernel_rfl) Tryz.func5
    (OpenSpec.witness_stopped_atRef (enc := enc) (C := Tryz.checked) false (laidWorld os) #[.slice none 0 0, .bool false, .int .u64 0, .int .u64 0] rfl (by kernel_rfl) (by kernel_rfl) (by kernel_rfl)
      (OpenSpec.preRow_of_B rfl 8 (by kernel_rfl) (by kernel_rfl) (laid_met os _))) ?_
  intro F W base0 args ds gs before _ hF hval0 hW _ _ _ hL _
  have hval : ∀ (j : Nat) t v, Tryz.f5.params[j]? = some t → args[j]? = some v → Value.okWide Tryz.prog W .any base0 t v := hval0
  have hW' := hW
  obtain ⟨p, q, hA0, hV0, rfl, hfz, hnd⟩ := hW
  have hA : DataW.TrodAll enc Tryz.prog W 0 (fun _ => true) true Tryz.f5.params.toList args.toList ds p := hA0
  rw [Tryz.params5] at hA hval
  obtain ⟨v0, v1, v2, v3, d0, d1, d2, d3, p0, p1, p2, p3, rfl, rfl, rfl, h0, h1, h2, h3⟩ := rd_trod hA
  obtain ⟨vo0, vn0, vc0, rfl⟩ := okWide_slice Tryz.underlying22 (hval 0 22 v0 rfl rfl)
  obtain ⟨fuel0, hf0⟩ := h0
  obtain ⟨L0, hr0, hm0⟩ := strs_of_trod hf0
  obtain ⟨b1, rfl, rfl, rfl⟩ := open_bool Tryz.underlying4 (hval 1 4 v1 rfl rfl) h1
  obtain ⟨n2, rfl, rfl, rfl, hw2⟩ := open_int Tryz.underlying24 (hval 2 24 v2 rfl rfl) h2
  obtain ⟨k2, rfl⟩ := Int.eq_ofNat_of_zero_le (rd_u64 hw2)
  obtain ⟨n3, rfl, rfl, rfl, hw3⟩ := open_int Tryz.underlying24 (hval 3 24 v3 rfl rfl) h3
  obtain ⟨k3, rfl⟩ := Int.eq_ofNat_of_zero_le (rd_u64 hw3)
  obtain ⟨_, _, _, _, g1, _, hgs, _⟩ := trodVars_one hV0
  refine (core _ L0 b1 k2 k3 W hr0 hm0).mono fun e W' ⟨he, hB⟩ => ?_
  subst he
  refine ⟨_, rfl, truth_post laidOutK (by kernel_rfl) (by kernel_rfl) (tb := 4) (by kernel_rfl) Tryz.underlying4 hW' ?_ hB _⟩
  rw [hgs]
  rfl

set_option maxRecDepth 1000000 in
theorem rd_holds (core : RDCore) : Rows.FnDblQuotedExactToldSaid :=
  Claim7.holds_of_told_tied_any_at .later 5 Tryz.f5 "fmt.errorf, its operands' methods called" ["fmt.Sprintf, its operands' methods called"] [] _ _ _ _ _ RD.hw rfl rfl rfl laidOutK mapsRowedK rfl ⟨rfl, rfl, rfl, rfl, rfl, rfl, rfl⟩ rfl rfl RD.htie RD.hfn Tryz.func5 RD.hr
    RD.hinst RD.hwrap RD.hstops rfl stopKnobsK.symm envWordedK
    RD.hin RD.hop RD.hrc RD.hvs RD.hmp RD.hif RD.hmo RD.hlo RD.hwk rfl RD.hvars rfl rfl
    rfl rfl
    rfl RD.hmain looksK RD.hfun (by decide) RD.hgoes fnDblQuotedExact_row_tie
    (OpenClaim.moreEntering_of mayEnterK RD.m4 stopsHeardK RD.m6 RD.m7 RD.m8 RD.m9 RD.m10 RD.m11 RD.m12)
    ⟨_, WideRow.started_initial, quietK _⟩
    (fun os started _ H enc _ => rd_lifted core os started H enc) ⟨RD.hvl1, RD.hvl2⟩
end Go.Proofs.YtnhmgjgdkcgmfaaGreatFmt
