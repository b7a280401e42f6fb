/-
  n010_39.FnPrinterReuseStateless: the card, out of what the walk says.
-/
import Derived.Test.YtlblpdbldnnllaaGreatFmtQRK
namespace Go.Proofs.YtlblpdbldnnllaaGreatFmt
open Go.ChangeShapes Go.WideShapes Go.ChangeAt Go.RowKit Go.Kit
open Go.ChangeMaps (open_string)
open Go.Extern.Stop Go.Stop Go.Extern

theorem qr_u64 {n : Int} (h : (Lit.int .u64 n).wf = true) : 0 ≤ n := by
  have h0 : IntKind.u64.min = 0 := rfl
  simp [Lit.wf] at h
  omega
section
variable {H : Type} {enc : TypeId × Value → H} {P : Program} {w : World} {base : Nat} {spare : Nat → Bool} {held : Bool}
theorem qr_trod {t0 t1 t2 t3 : TypeId} {args : Array Value} {ds : List (DataW H)} {ps : List MemPlace} (h : DataW.TrodAll enc P w base spare held [t0, t1, t2, t3] args.toList ds ps) :
    ∃ v0 v1 v2 v3 d0 d1 d2 d3 p0 p1 p2 p3, args = #[v0, v1, v2, v3] ∧ ds = [d0, d1, d2, d3] ∧ ps = p0 ++ p1 ++ p2 ++ p3 ∧ DataW.Trod enc P w base spare held t0 v0 d0 p0 ∧ DataW.Trod enc P w base spare held t1 v1 d1 p1 ∧ DataW.Trod enc P w base spare held t2 v2 d2 p2 ∧ DataW.Trod enc P w base spare held t3 v3 d3 p3 := by
  obtain ⟨v0, vs0, d0, ds0, p0, q0, hargs, rfl, rfl, h0, r0⟩ := trodAll_cons h
  obtain ⟨v1, vs1, d1, ds1, p1, q1, rfl, rfl, rfl, h1, r1⟩ := trodAll_cons r0
  obtain ⟨v2, vs2, d2, ds2, p2, q2, rfl, rfl, rfl, h2, r2⟩ := trodAll_cons r1
  obtain ⟨v3, vs3, d3, ds3, p3, q3, rfl, rfl, rfl, h3, r3⟩ := trodAll_cons r2
  obtain ⟨rfl, rfl, rfl⟩ := trodAll_nil r3
  exact ⟨v0, v1, v2, v3, d0, d1, d2, d3, p0, p1, p2, p3, by cases args; simp_all, rfl, by simp, h0, h1, h2, h3⟩
end

def QRCore : Prop := ∀ (s0 : ByteArray) (s1 : ByteArray) (k2 : Nat) (b3 : Bool) (W : World), s0.size ≤ maxLen → s1.size ≤ maxLen → Calls Tryz.prog 7 #[.string s0, .string s1, .int .u64 (k2 : Int), .bool b3] W fun e W' => e = .returned (.bool true) ∧ Below W.heap.size W W'

set_option maxRecDepth 1000000 in
set_option maxHeartbeats 1600000 in
theorem qr_lifted (core : QRCore) (os : Os) (started : os.Started) (H : Type) (enc : TypeId × Value → H) :
    ReturnsInTold none {} Tryz.checked os 7 .any Input.okWide ((OpenSpec.ofChange Rows.fnPrinterReuseStatelessSpec).preRow enc Tryz.prog Tryz.f7 [] false Rows.fnPrinterReuseStatelessRow.laid)
      (fun F => ((OpenSpec.ofChange Rows.fnPrinterReuseStatelessSpec).at F.told).post enc Tryz.prog Tryz.f7 false Rows.fnPrinterReuseStatelessRow.fresh Rows.fnPrinterReuseStatelessRow.handsOn false) (aloneAtReturn Tryz.prog) nothingAlways := by
  refine returnsInTold_of_row (C := Tryz.checked) (s := OpenSpec.ofChange Rows.fnPrinterReuseStatelessSpec) (by kernel_rfl) ownK started (by kernel_rfl) Tryz.func7
    (OpenSpec.witness_stopped_atRef (enc := enc) (C := Tryz.checked) false (laidWorld os) #[.string ⟨#[]⟩, .string ⟨#[]⟩, .int .u64 0, .bool false] rfl (by kernel_rfl) (by kernel_rfl) (by kernel_rfl)
      (OpenSpec.preRow_of_B rfl 8 (by kernel_rfl) (by kernel_rfl) (laid_met os _))) ?_
  intro F W base0 args ds gs before _ hF hval0 hW _ _ _ hL _
  have hval : ∀ (j : Nat) t v, Tryz.f7.params[j]? = some t → args[j]? = some v → Value.okWide Tryz.prog W .any base0 t v := hval0
  have hW' := hW
  obtain ⟨p, q, hA0, hV0, rfl, hfz, hnd⟩ := hW
  have hA : DataW.TrodAll enc Tryz.prog W 0 (fun _ => true) true Tryz.f7.params.toList args.toList ds p := hA0
  rw [Tryz.params7] at hA hval
  obtain ⟨v0, v1, v2, v3, d0, d1, d2, d3, p0, p1, p2, p3, rfl, rfl, rfl, h0, h1, h2, h3⟩ := qr_trod hA
  obtain ⟨s0, rfl, rfl, rfl, hs0⟩ := open_string Tryz.underlying9 (hval 0 9 v0 rfl rfl) h0
  obtain ⟨s1, rfl, rfl, rfl, hs1⟩ := open_string Tryz.underlying9 (hval 1 9 v1 rfl rfl) h1
  obtain ⟨n2, rfl, rfl, rfl, hw2⟩ := open_int Tryz.underlying26 (hval 2 26 v2 rfl rfl) h2
  obtain ⟨k2, rfl⟩ := Int.eq_ofNat_of_zero_le (qr_u64 hw2)
  obtain ⟨b3, rfl, rfl, rfl⟩ := open_bool Tryz.underlying4 (hval 3 4 v3 rfl rfl) h3
  obtain ⟨_, _, _, _, g1, _, hgs, _⟩ := trodVars_one hV0
  refine (core s0 s1 k2 b3 W hs0 hs1).mono fun e W' ⟨he, hB⟩ => ?_
  subst he
  refine ⟨_, rfl, truth_post laidOutK (by kernel_rfl) (by kernel_rfl) (tb := 4) (by kernel_rfl) Tryz.underlying4 hW' ?_ hB _⟩
  rw [hgs]
  rfl

set_option maxRecDepth 1000000 in
theorem qr_holds (core : QRCore) : Rows.FnPrinterReuseStatelessToldSaid :=
  Claim7.holds_of_told_tied_any_at .later 7 Tryz.f7 "fmt.errorf, its operands' methods called" ["fmt.Sprintf, its operands' methods called"] [] _ _ _ _ _ QR.hw rfl rfl rfl laidOutK mapsRowedK rfl ⟨rfl, rfl, rfl, rfl, rfl, rfl, rfl⟩ rfl rfl QR.htie QR.hfn Tryz.func7 QR.hr
    QR.hinst QR.hwrap QR.hstops rfl stopKnobsK.symm envWordedK
    QR.hin QR.hop QR.hrc QR.hvs QR.hmp QR.hif QR.hmo QR.hlo QR.hwk rfl QR.hvars rfl rfl
    rfl rfl
    rfl QR.hmain looksK QR.hfun (by decide) QR.hgoes fnPrinterReuseStateless_row_tie
    (OpenClaim.moreEntering_of mayEnterK QR.m4 stopsHeardK QR.m6 QR.m7 QR.m8 QR.m9 QR.m10 QR.m11 QR.m12)
    ⟨_, WideRow.started_initial, quietK _⟩
    (fun os started _ H enc _ => qr_lifted core os started H enc) ⟨QR.hvl1, QR.hvl2⟩
end Go.Proofs.YtlblpdbldnnllaaGreatFmt
