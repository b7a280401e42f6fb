/-
  n010_157.FnClosingParenSpacingTable: the walk.
-/
import Derived.Test.YtjljnfmacechfaaGreatFmtCPX
import Derived.Test.YtjljnfmacechfaaGreatFmtCPY
namespace Go.Proofs.YtjljnfmacechfaaGreatFmt
open Go.RowKit

set_option maxRecDepth 100000 in
set_option maxHeartbeats 32000000 in
theorem cp_main (x0 : Value) (ks : List Nat) (i1 : Int) (mi si fl mn : Bool) (k6 k7 k8 k9 k10 k11 : Nat) (w : World) (hrd : KsRd w x0 ks) (hmx : ks.length ≤ maxLen) :
    Calls Tryz.prog 3 #[x0, .int .i64 i1, .bool mi, .bool si, .bool fl, .bool mn, .int .u8 (k6 : Int), .int .u64 (k7 : Int), .int .u64 (k8 : Int), .int .u64 (k9 : Int), .int .u64 (k10 : Int), .int .u64 (k11 : Int)] w fun e w' => e = .returned (.bool true) ∧ Below w.heap.size w w' := by
  obtain ⟨n, hn⟩ : ∃ n, n = ks.length := ⟨_, rfl⟩
  have hx0 : ∃ ao c, x0 = .slice ao ks.length c := by
    rcases hrd with ⟨h1, h2⟩ | ⟨a, c, h1, _⟩
    · exact ⟨none, 0, by rw [h1, h2]; rfl⟩
    · exact ⟨_, _, h1⟩
  obtain ⟨ao, c0, hx⟩ := hx0
  have hzb := fun W => cp_zb ao ks.length c0 i1 mi si fl mn k6 k7 k8 k9 k10 k11 hmx W
  rw [← hx] at hzb
  by_cases hzn : 1048576 < ks.length
  · rw [decide_eq_false (by omega)] at hzb
    have HZB := Lib.hid hzb
    clear hzb hmx hzn hn hrd
    subst hx
    go_enter Tryz.func3, Tryz.ntmps3
    go_wp2_with (go_at_call 4; refine (HZB.out _).mono ?_; rintro e w1 ⟨rfl, rfl⟩)
    go_ret
    exact ⟨rfl, Below.refl _ _⟩
  rw [decide_eq_true (by omega)] at hzb
  have HZB := Lib.hid hzb
  have HX := Lib.hid hx
  have HRd := Lib.hid (And.intro hrd hn)
  have hnIM : (ks.length : Int) ≤ 1048576 := by omega
  have hnM : (n : Int) ≤ 1048576 := by omega
  rw [← hn] at hx
  have hbi := zz_badIndent k7 k8
  clear hzb hmx hrd
  have hE : ∀ P : Prop, (∀ ao c, x0 = .slice ao n c → P) → P := fun P h => h _ _ hx
  refine hE _ fun ao1 c1 hx1 => ?_
  clear hE
  by_cases hn4 : 4096 < ks.length
  · have hI : (4096 : Int) < (n : Int) := by omega
    have HB0 := Lib.hid (And.intro hx1 (And.intro hbi hn4))
    clear hbi hn4 hx hnIM hzn hn
    obtain rfl := HB0.out.1
    clear HB0 hx1
    go_enter Tryz.func3, Tryz.ntmps3
    go_wp2_with (go_at_call 4; refine (HZB.out _).mono ?_; rintro e w1 ⟨rfl, rfl⟩)
    go_ret
    exact ⟨rfl, Below.refl _ _⟩
  have hn4I : (n : Int) ≤ 4096 := by omega
  have hn4K : (ks.length : Int) ≤ 4096 := by omega
  by_cases hi : i1 < 0
  · clear hbi hn4 hx hnIM hzn hn hn4K
    subst hx1
    go_enter Tryz.func3, Tryz.ntmps3
    go_wp2_with (go_at_call 4; refine (HZB.out _).mono ?_; rintro e w1 ⟨rfl, rfl⟩)
    go_ret
    exact ⟨rfl, Below.refl _ _⟩
  have hi : 0 ≤ i1 := by omega
  by_cases hi4 : 4096 < i1
  · clear hbi hn4 hx hnIM hzn hn hn4K
    subst hx1
    go_enter Tryz.func3, Tryz.ntmps3
    go_wp2_with (go_at_call 4; refine (HZB.out _).mono ?_; rintro e w1 ⟨rfl, rfl⟩)
    go_ret
    exact ⟨rfl, Below.refl _ _⟩
  have hi4 : i1 ≤ 4096 := by omega
  by_cases h6 : 2 < k6
  · have hI : (2 : Int) < (k6 : Int) := by omega
    clear hbi hn4 hx hnIM hzn hn hn4K h6
    subst hx1
    go_enter Tryz.func3, Tryz.ntmps3
    go_wp2_with (go_at_call 4; refine (HZB.out _).mono ?_; rintro e w1 ⟨rfl, rfl⟩)
    go_ret
    exact ⟨rfl, Below.refl _ _⟩
  have h6I : (k6 : Int) ≤ 2 := by omega
  by_cases hb : 1024 < k7 ∨ 1024 < k8 ∨ 65536 < k7 * k8
  · simp only [hb, decide_true] at hbi
    have HBI := Lib.hid hbi
    clear hbi hb hn4 hx hnIM hzn hn hn4K h6
    subst hx1
    go_enter Tryz.func3, Tryz.ntmps3
    go_wp2_with (first | (go_at_call 4; refine (HZB.out _).mono ?_; rintro e w1 ⟨rfl, rfl⟩) | (go_at_call 5; refine (HBI.out _).mono ?_; rintro e w1 ⟨rfl, hw⟩; obtain rfl := hw.symm))
    go_ret
    exact ⟨rfl, Below.refl _ _⟩
  simp only [hb, decide_false] at hbi
  have HBI := Lib.hid hbi
  clear hbi
  by_cases hk9 : 1048576 < k9
  · have hI : (1048576 : Int) < (k9 : Int) := by omega
    clear hb hn4 hx hnIM hzn hn hn4K h6 hk9
    subst hx1
    go_enter Tryz.func3, Tryz.ntmps3
    go_wp2_with (first | (go_at_call 4; refine (HZB.out _).mono ?_; rintro e w1 ⟨rfl, rfl⟩) | (go_at_call 5; refine (HBI.out _).mono ?_; rintro e w1 ⟨rfl, hw⟩; obtain rfl := hw.symm))
    go_ret
    exact ⟨rfl, Below.refl _ _⟩
  have hk9I : (k9 : Int) ≤ (1048576 : Int) := by omega
  by_cases hk10 : 262143 < k10
  · have hI : (262143 : Int) < (k10 : Int) := by omega
    clear hb hn4 hx hnIM hzn hn hn4K h6 hk10
    subst hx1
    go_enter Tryz.func3, Tryz.ntmps3
    go_wp2_with (first | (go_at_call 4; refine (HZB.out _).mono ?_; rintro e w1 ⟨rfl, rfl⟩) | (go_at_call 5; refine (HBI.out _).mono ?_; rintro e w1 ⟨rfl, hw⟩; obtain rfl := hw.symm))
    go_ret
    exact ⟨rfl, Below.refl _ _⟩
  have hk10I : (k10 : Int) ≤ (262143 : Int) := by omega
  by_cases hk11 : 262143 < k11
  · have hI : (262143 : Int) < (k11 : Int) := by omega
    clear hb hn4 hx hnIM hzn hn hn4K h6 hk11
    subst hx1
    go_enter Tryz.func3, Tryz.ntmps3
    go_wp2_with (first | (go_at_call 4; refine (HZB.out _).mono ?_; rintro e w1 ⟨rfl, rfl⟩) | (go_at_call 5; refine (HBI.out _).mono ?_; rintro e w1 ⟨rfl, hw⟩; obtain rfl := hw.symm))
    go_ret
    exact ⟨rfl, Below.refl _ _⟩
  have hk11I : (k11 : Int) ≤ (262143 : Int) := by omega
  obtain ⟨nl, rfl⟩ := Int.eq_ofNat_of_zero_le hi
  obtain ⟨v, hv⟩ : ∃ v, v = stVS mi si fl mn false false k6 k7 k8 k9 := ⟨_, rfl⟩
  obtain ⟨v2, hv2⟩ : ∃ v2, v2 = sRp v k11 := ⟨_, rfl⟩
  obtain ⟨bs, hbs⟩ : ∃ bs : ByteArray, bs = ⟨(mRp v k11 ++ [41]).toArray⟩ := ⟨_, rfl⟩
  obtain ⟨bs2, hbs2⟩ : ∃ bs2 : ByteArray, bs2 = ⟨([32] ++ (mRp v k11 ++ [41])).toArray⟩ := ⟨_, rfl⟩
  have hcat : (⟨#[32]⟩ : ByteArray) ++ bs = bs2 := by
    refine ByteArray.ext (Array.toList_inj.1 ?_)
    rw [hbs, hbs2, ByteArray.data_append]
    simp
  have hvb : v.Bd := by rw [hv]; exact ⟨by show k7 * k8 ≤ _; omega, by show k8 ≤ _; omega, by show k9 ≤ _; omega⟩
  have hve : v = stVS v.mi v.si v.fl v.mn v.wn v.sm v.ws v.k v.lv v.ln := by rw [hv]; rfl
  have hsi : v.si = si := by rw [hv]; rfl
  have hst := fun W => zz_state v mi si fl mn false false k6 k7 k8 k9 hv W
  have hcl : ∀ (r : Bool), (decide (nl = 0) && endKs ks && (si || decide (k10 = k11))) = r → ∀ (kv : Value) (W : World), KsRd W kv ks →
      Calls Tryz.prog 8 #[stV v, kv, .int .i64 (nl : Int), .int .u64 (k10 : Int), .int .u64 (k11 : Int)] W fun e w' => e = .returned (.tuple #[.string (if r then bs2 else bs), stV v2]) ∧ Upd (fun _ => False) W w' := by
    intro r hr kv W hrd
    refine (zz_closingParen v hve hvb nl k10 k11 (by omega) (by omega) (by omega) (by omega) hrd).mono ?_
    rintro e w' ⟨rfl, hu⟩
    refine ⟨?_, hu⟩
    rw [cp_text (r := r) (by rw [hsi]; exact hr), ← hv2]
    cases r
    · simp [hbs]
    · simp [hbs2]
  have hpe := pParen_eq mi si fl mn k6 k7 k8 k9 k11
  rw [← hv, ← hv2] at hpe
  obtain ⟨hp1, hp2, hp3, hp4, hp5⟩ := hpe
  have hpm : ∀ W : World, Calls Tryz.prog 9 #[.bool mi, .bool si, .bool fl, .bool mn, .int .u64 (k7 : Int), .int .u64 (k8 : Int), .int .u64 (k9 : Int), .int .u64 (k11 : Int)] W fun e w' => e = .returned (.tuple #[.string bs, .int .u64 (v2.ln : Int), .bool v2.fl, .bool v2.mn]) ∧ Upd (fun _ => False) W w' := by
    intro W
    refine (p_paren mi si fl mn k7 k8 k9 k11 (by omega) (by omega) (by omega) W).mono ?_
    rintro e w' ⟨rfl, hu⟩
    refine ⟨?_, hu⟩
    rw [← hp1, ← hp2, ← hp3, ← hp4, hbs]
  have hbsz : bs.size ≤ 1073741824 := by
    rw [hbs]
    show (mRp v k11 ++ [41]).toArray.size ≤ _
    rw [List.size_toArray, List.length_append, List.length_singleton]
    have h1 := mIndent_le v hvb
    have h2 := mRp_len v k11
    omega
  have hadd : ∀ W : World, (Op.stringOp .add ⟨#[32]⟩ bs).run Tryz.prog W = .ok (.string bs2) W := fun W => by
    have h1 : ¬ (((⟨#[32]⟩ : ByteArray).size + bs.size : Nat) : Int) > IntKind.i64.max := by
      have e1 : (⟨#[32]⟩ : ByteArray).size = 1 := rfl
      have e2 : IntKind.i64.max = 9223372036854775807 := rfl
      rw [e1, e2]
      omega
    unfold Op.stringOp
    simp only [if_neg h1, hcat]
    rfl
  have hws : (v2.ws : Int) = 1 := by rw [hp5]; rfl
  have hcb := cp_bytes157 HRd.out.1 (by omega)
  have hx0 : ∃ ao c, x0 = .slice ao ks.length c := ⟨_, _, HX.out⟩
  by_cases h0 : nl = 0
  · subst h0
    by_cases hl1 : ks.length = 1
    · obtain ⟨k, rfl⟩ := List.length_eq_one_iff.1 hl1
      by_cases hk0 : k = 0
      · subst hk0
        exact cp_caseC mi fl mn k6 k7 k8 k9 k10 k11 si w v v2 bs bs2 x0 h6I hk9I hk10I hk11I hx0 trivial HZB.out HBI.out hcb hst (hcl false (by rfl)) hpm hadd hws
      by_cases hk3 : 3 < k
      · exact cp_caseD mi fl mn k6 k7 k8 k9 k10 k11 si k (by omega) (by omega) w v v2 bs bs2 x0 h6I hk9I hk10I hk11I hx0 trivial HZB.out HBI.out hcb hst (hcl false (by
          have : endKs [k] = false := by
            show (decide (1 ≤ k) && decide (k ≤ 3)) = false
            rw [Bool.and_eq_false_iff]; right; simp; omega
          rw [this]; simp)) hpm hadd hws
      have hek : endKs [k] = true := by
        show (decide (1 ≤ k) && decide (k ≤ 3)) = true
        rw [Bool.and_eq_true]; exact ⟨decide_eq_true (by omega), decide_eq_true (by omega)⟩
      cases hsi2 : si
      · subst hsi2
        by_cases hoc : k10 = k11
        · exact cp_caseF mi fl mn k6 k7 k8 k9 k10 k11 k (by omega) (by omega) (by rw [hoc]; simp) (by rw [hoc]; simp) w v v2 bs bs2 x0 h6I hk9I hk10I hk11I hx0 trivial HZB.out HBI.out hcb hst (hcl true (by rw [hek]; simp [hoc])) hpm hadd hws
        · exact cp_caseG mi fl mn k6 k7 k8 k9 k10 k11 k (by omega) (by omega) (by rw [beq_eq_false_iff_ne]; omega) (by rw [beq_eq_false_iff_ne]; exact hoc) w v v2 bs bs2 x0 h6I hk9I hk10I hk11I hx0 trivial HZB.out HBI.out hcb hst (hcl false (by rw [hek]; simp [hoc])) hpm hadd hws
      · subst hsi2
        exact cp_caseE mi fl mn k6 k7 k8 k9 k10 k11 k (by omega) (by omega) w v v2 bs bs2 x0 h6I hk9I hk10I hk11I hx0 trivial HZB.out HBI.out hcb hst (hcl true (by rw [hek]; rfl)) hpm hadd hws
    · exact cp_caseB mi fl mn k6 k7 k8 k9 k10 k11 si ks (by rw [beq_eq_false_iff_ne]; omega) (by rw [beq_eq_false_iff_ne]; exact hl1) w v v2 bs bs2 x0 h6I hk9I hk10I hk11I hx0 hn4K HZB.out HBI.out hcb hst (hcl false (by
          have : endKs ks = false := by
            cases he : endKs ks
            · rfl
            · exact absurd (endKs_one he) hl1
          rw [this]; simp)) hpm hadd hws
  · exact cp_caseA mi fl mn k6 k7 k8 k9 k10 k11 nl si ks (by rw [beq_eq_false_iff_ne]; omega) (by rw [beq_eq_false_iff_ne]; exact h0) (by omega) w v v2 bs bs2 x0 h6I hk9I hk10I hk11I hx0 hn4K HZB.out HBI.out hcb hst (hcl false (by simp [h0])) hpm hadd hws
end Go.Proofs.YtjljnfmacechfaaGreatFmt
