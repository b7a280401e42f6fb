/-
  n010_157.FnClosingParenAgreesWithRightParen: the walk.
-/
import Derived.Test.YtgcoopjkjeoflaaGreatFmtRCAX
import Derived.Test.YtgcoopjkjeoflaaGreatFmtRCAY
import Derived.Test.YtgcoopjkjeoflaaGreatFmtRCAZ
namespace Go.Proofs.YtgcoopjkjeoflaaGreatFmtR
open Go.RowKit

set_option maxRecDepth 100000 in
set_option maxHeartbeats 32000000 in
theorem ca_main (b0 b1 b2 b3 : Bool) (k4 k5 k6 k7 k8 k9 : Nat) (w : World) :
    Calls Tryz.prog 5 #[.bool b0, .bool b1, .bool b2, .bool b3, .int .u8 (k4 : Int), .int .u64 (k5 : Int), .int .u64 (k6 : Int), .int .u64 (k7 : Int), .int .u64 (k8 : Int), .int .u64 (k9 : Int)] w fun e w' => e = .returned (.bool true) ∧ Below w.heap.size w w' := by
  by_cases h4 : 2 < k4
  · have h4I : (2 : Int) < (k4 : Int) := by omega
    clear h4
    go_enter Tryz.func5, Tryz.ntmps5
    go_wp2_with fail
    go_ret
    exact ⟨rfl, Below.refl _ _⟩
  have h4I : (k4 : Int) ≤ 2 := by omega
  clear h4
  have hbi := zz_badIndent k5 k6
  by_cases hb : 1024 < k5 ∨ 1024 < k6 ∨ 65536 < k5 * k6
  · simp only [hb, decide_true] at hbi
    have HBI := Lib.hid hbi
    clear hbi hb
    go_enter Tryz.func5, Tryz.ntmps5
    go_wp2_with (go_at_call 6; refine (HBI.out _).mono ?_; rintro e w1 ⟨rfl, hw⟩; obtain rfl := hw.symm)
    go_ret
    exact ⟨rfl, Below.refl _ _⟩
  simp only [hb, decide_false] at hbi
  have HBI := Lib.hid hbi
  clear hbi
  by_cases hk7 : 1048576 < k7
  · have hI : (1048576 : Int) < (k7 : Int) := by omega
    clear hb hk7
    go_enter Tryz.func5, Tryz.ntmps5
    go_wp2_with (go_at_call 6; refine (HBI.out _).mono ?_; rintro e w1 ⟨rfl, hw⟩; obtain rfl := hw.symm)
    go_ret
    exact ⟨rfl, Below.refl _ _⟩
  have hk7I : (k7 : Int) ≤ (1048576 : Int) := by omega
  by_cases hk8 : 262143 < k8
  · have hI : (262143 : Int) < (k8 : Int) := by omega
    clear hb hk8
    go_enter Tryz.func5, Tryz.ntmps5
    go_wp2_with (go_at_call 6; refine (HBI.out _).mono ?_; rintro e w1 ⟨rfl, hw⟩; obtain rfl := hw.symm)
    go_ret
    exact ⟨rfl, Below.refl _ _⟩
  have hk8I : (k8 : Int) ≤ (262143 : Int) := by omega
  by_cases hk9 : 262143 < k9
  · have hI : (262143 : Int) < (k9 : Int) := by omega
    clear hb hk9
    go_enter Tryz.func5, Tryz.ntmps5
    go_wp2_with (go_at_call 6; refine (HBI.out _).mono ?_; rintro e w1 ⟨rfl, hw⟩; obtain rfl := hw.symm)
    go_ret
    exact ⟨rfl, Below.refl _ _⟩
  have hk9I : (k9 : Int) ≤ (262143 : Int) := by omega
  obtain ⟨v, hv⟩ : ∃ v, v = stVS b0 b1 b2 b3 false false k4 k5 k6 k7 := ⟨_, rfl⟩
  obtain ⟨v2, hv2⟩ : ∃ v2, v2 = sRp v k9 := ⟨_, rfl⟩
  obtain ⟨bs, hbs⟩ : ∃ bs : ByteArray, bs = ⟨(mRp v k9 ++ [41]).toArray⟩ := ⟨_, rfl⟩
  obtain ⟨bs2, hbs2⟩ : ∃ bs2 : ByteArray, bs2 = ⟨([32] ++ (mRp v k9 ++ [41])).toArray⟩ := ⟨_, rfl⟩
  have hcat : (⟨#[32]⟩ : ByteArray) ++ bs = bs2 := by
    refine ByteArray.ext (Array.toList_inj.1 ?_)
    rw [hbs, hbs2, ByteArray.data_append]
    simp
  have hvb : v.Bd := by rw [hv]; exact ⟨by show k5 * k6 ≤ _; omega, by show k6 ≤ _; omega, by show k7 ≤ _; omega⟩
  have hve : v = stVS v.mi v.si v.fl v.mn v.wn v.sm v.ws v.k v.lv v.ln := by rw [hv]; rfl
  have hsi : v.si = b1 := by rw [hv]; rfl
  have HSt := Lib.hid (fun W => zz_state v b0 b1 b2 b3 false false k4 k5 k6 k7 hv W)
  have hrp := fun W => zz_rightParen v hve hvb k9 (by omega) W
  rw [← hv2, ← hbs] at hrp
  have HRp := Lib.hid hrp
  have hcl : ∀ (ks : List Nat) (nl : Nat) (r : Bool) (kv : Value) (W : World), (decide (nl = 0) && endKs ks && (b1 || decide (k8 = k9))) = r → ks.length ≤ 4096 → nl ≤ 4096 → KsRd W kv ks →
      Calls Tryz.prog 13 #[stV v, kv, .int .i64 (nl : Int), .int .u64 (k8 : Int), .int .u64 (k9 : Int)] W fun e w' => e = .returned (.tuple #[.string (if r then bs2 else bs), stV v2]) ∧ Upd (fun _ => False) W w' := by
    intro ks nl r kv W hr hk hn hrd
    refine (zz_closingParen v hve hvb nl k8 k9 (by omega) (by omega) hk hn hrd).mono ?_
    rintro e w' ⟨rfl, hu⟩
    refine ⟨?_, hu⟩
    rw [cl_text (r := r) (by rw [hsi]; exact hr), ← hv2]
    cases r
    · simp [hbs]
    · simp [hbs2]
  have HCl := Lib.hid hcl
  have hbsz : bs.size ≤ 1073741824 := by
    rw [hbs]
    show (mRp v k9 ++ [41]).toArray.size ≤ _
    rw [List.size_toArray, List.length_append, List.length_singleton]
    have h1 := mIndent_le v hvb
    have h2 := mRp_len v k9
    omega
  have hadd : ∀ W : World, (Op.stringOp .add ⟨#[32]⟩ bs).run Tryz.prog W = .ok (.string bs2) W := fun W => by
    have h1 : ¬ (((⟨#[32]⟩ : ByteArray).size + bs.size : Nat) : Int) > IntKind.i64.max := by
      have e1 : (⟨#[32]⟩ : ByteArray).size = 1 := rfl
      have e2 : IntKind.i64.max = 9223372036854775807 := rfl
      rw [e1, e2]
      omega
    unfold Op.stringOp
    simp only [if_neg h1, hcat]
    rfl
  clear hrp hcl hve hvb hv hv2 hbs hbs2 hb hk7 hk8 hk9 hsi hcat hbsz
  have hsame : ∃ sl : Bool, (b1 || decide (k8 = k9)) = sl ∧ ((b1 = true ∧ sl = true) ∨ (b1 = false ∧ (k8 : Int) = (k9 : Int) ∧ sl = true) ∨ (b1 = false ∧ ((k8 : Int) == (k9 : Int)) = false ∧ sl = false)) := by
    refine ⟨_, rfl, ?_⟩
    cases b1
    · by_cases h : k8 = k9
      · exact .inr (.inl ⟨rfl, by omega, by simp [h]⟩)
      · exact .inr (.inr ⟨rfl, by rw [beq_eq_false_iff_ne]; omega, by simp [h]⟩)
    · exact .inl ⟨rfl, rfl⟩
  obtain ⟨sl, hsl, hcs⟩ := hsame
  have HSl := Lib.hid hsl
  clear hsl
  rcases hcs with ⟨rfl, rfl⟩ | ⟨rfl, hkk, rfl⟩ | ⟨rfl, hkk, rfl⟩
  · exact ca_caseX b0 b2 b3 k4 k5 k6 k7 k8 k9 w v v2 bs bs2 h4I hk7I hk8I hk9I HBI.out HSt.out HRp.out HCl.out hadd HSl.out
  · exact ca_caseY b0 b2 b3 k4 k5 k6 k7 k8 k9 w v v2 bs bs2 h4I hk7I hk8I hk9I HBI.out HSt.out HRp.out HCl.out hadd HSl.out (by omega)
  · exact ca_caseZ b0 b2 b3 k4 k5 k6 k7 k8 k9 w v v2 bs bs2 h4I hk7I hk8I hk9I HBI.out HSt.out HRp.out HCl.out hadd HSl.out hkk
end Go.Proofs.YtgcoopjkjeoflaaGreatFmtR
