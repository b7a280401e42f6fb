/-
  n010_157.FnSemiRsrvSeparatorShape: the walk.
-/
import Derived.Test.YtgcoopjkjeoflaaGreatFmtRCc
import GoSem.ClaimData
namespace Go.Proofs.YtgcoopjkjeoflaaGreatFmtR
open Go.RowKit

/-- What may stand ahead of the word. -/
def SepP (p : ByteArray) : Prop := p = ⟨#[]⟩ ∨ p = ⟨#[59]⟩ ∨ p = ⟨#[32]⟩ ∨ p = ⟨#[59, 32]⟩ ∨ (p.data.toList.head? = some 10 ∧ ∀ c ∈ p.data.toList, c = 10 ∨ c = 32 ∨ c = 9 ∨ c = 255)

theorem sep_cases (c : UInt8) (h : c = 10 ∨ c = 32 ∨ c = 9 ∨ c = 255) : (c.toNat : Int) = 10 ∨ (c.toNat : Int) = 32 ∨ (c.toNat : Int) = 9 ∨ (c.toNat : Int) = 255 := by
  rcases h with rfl | rfl | rfl | rfl
  · exact .inl rfl
  · exact .inr (.inl rfl)
  · exact .inr (.inr (.inl rfl))
  · exact .inr (.inr (.inr rfl))

theorem sep_mSr (v : VS) (L : Nat) : SepP ⟨(mSr v L).toArray⟩ := by
  have hb := mIndent_bytes v
  have hB : ∀ c ∈ mIndent v, c = 10 ∨ c = 32 ∨ c = 9 ∨ c = 255 := fun c hc => by
    rcases hb c hc with h | h | h
    · exact .inr (.inr (.inr h))
    · exact .inr (.inr (.inl h))
    · exact .inr (.inl h)
  have hnl : SepP ⟨(mNls v L).toArray⟩ := by
    unfold mNls
    split
    · exact .inl rfl
    · split
      · refine .inr (.inr (.inr (.inr ⟨by simp, fun c hc => ?_⟩)))
        simp only [List.mem_append, List.mem_singleton] at hc
        rcases hc with (h | h) | h
        · exact .inl h
        · split at h
          · exact .inl (by simpa using h)
          · cases h
        · exact hB c h
      · exact .inl rfl
  unfold mSr
  split
  · exact hnl
  · have hsp : spT v.ws = [] ∨ spT v.ws = [32] := by unfold spT; split; exact .inr rfl; exact .inl rfl
    rcases hsp with h | h <;> rw [h] <;> cases v.sm <;> cases v.mi
    · exact .inr (.inl rfl)
    · exact .inr (.inl rfl)
    · exact .inl rfl
    · exact .inl rfl
    · exact .inr (.inr (.inr (.inl rfl)))
    · exact .inr (.inl rfl)
    · exact .inr (.inr (.inl rfl))
    · exact .inl rfl

set_option maxRecDepth 100000 in
set_option maxHeartbeats 4000000 in
theorem zz_isSep (p : ByteArray) (h : SepP p) (hl : p.size ≤ 1099511627776) (w : World) : Calls Tryz.prog 12 #[.string p] w fun e w' => e = .returned (.bool true) ∧ w = w' := by
  rcases h with rfl | rfl | rfl | rfl | ⟨hh, hall⟩
  · clear hl
    go_enter Tryz.func12, Tryz.ntmps12
    go_wp2
    go_ret
    exact ⟨rfl, rfl⟩
  · clear hl
    go_enter Tryz.func12, Tryz.ntmps12
    go_wp2
    go_ret
    exact ⟨rfl, rfl⟩
  · clear hl
    go_enter Tryz.func12, Tryz.ntmps12
    go_wp2
    go_ret
    exact ⟨rfl, rfl⟩
  · clear hl
    go_enter Tryz.func12, Tryz.ntmps12
    go_wp2
    go_ret
    exact ⟨rfl, rfl⟩
  · have hsz : (p.size : Int) ≤ 1099511627776 := by omega
    have hne : 0 < p.size := by
      rcases Nat.eq_zero_or_pos p.size with h | h
      · have : p.data.toList = [] := List.length_eq_zero_iff.1 h
        rw [this] at hh
        cases hh
      · exact h
    have h0 : p[0]'hne = 10 := by
      have h2 : p.data.toList[0]? = some 10 := by rw [← List.head?_eq_getElem?]; exact hh
      have h3 : p.data[0]? = some 10 := by simpa using h2
      exact Array.getElem_eq_iff.2 h3
    have hneI : (0 : Int) < (p.size : Int) := by omega
    have hd : ∀ l : List UInt8, l.head? ≠ some 10 → (p.toList == l) = false := fun l hl => by
      rw [beq_eq_false_iff_ne]
      intro e
      rw [← e, ByteArray.toList_eq] at hl
      exact hl hh
    have q0 := hd [] (by simp)
    have q1 := hd [59] (by decide)
    have q2 := hd [32] (by decide)
    have q3 := hd [59, 32] (by decide)
    have HA := Lib.hid hall
    clear hl hh hd hall
    go_enter Tryz.func12, Tryz.ntmps12
    go_wp2_with fail
    go_loopg [3] (p.size) (fun k v3 wr => ∃ i : Nat, v3 = .int .i64 (i : Int) ∧ i + k = p.size ∧ w = wr)
    case atStart => exact ⟨0, rfl, by omega, rfl⟩
    case round =>
      obtain ⟨i, rfl, hik, rfl⟩ := hrel
      have HK := Lib.hid hik
      clear hik
      by_cases hlt : i < p.size
      · have hltI : (i : Int) < (p.size : Int) := by omega
        obtain ⟨c, hc⟩ : ∃ c, p[i]'hlt = c := ⟨_, rfl⟩
        have hcl : p.data.toList[i]'hlt = c := hc
        have hcase := sep_cases c (HA.out c (hcl ▸ List.getElem_mem _))
        clear hcl
        rcases hcase with h1 | h1 | h1 | h1
        all_goals
          go_wp2_with fail
          go_roundg (p.size - (i + 1))
          case measure => have := HK.out; omega
          case rel => exact ⟨i + 1, by go_num, by have := HK.out; omega, rfl⟩
      · obtain rfl : i = p.size := by have := HK.out; omega
        go_wp2_with fail
        go_ret
        exact ⟨rfl, rfl⟩

theorem sNls_ge (v : VS) (L : Nat) : v.ln ≤ (sNls v L).ln := by
  rcases sNls_ln v L with h | h <;> omega
theorem sNls_sm (v : VS) (L : Nat) : (sNls v L).sm = v.sm := by
  unfold sNls sIndent sNl
  split
  · rfl
  · split
    · split <;> rfl
    · rfl
theorem sSr_facts (v : VS) (L : Nat) : v.ln ≤ (sSr v L).ln ∧ (sSr v L).ws = 1 ∧ (sSr v L).sm = v.sm := by
  unfold sSr
  split
  · exact ⟨sNls_ge v L, rfl, sNls_sm v L⟩
  · exact ⟨Nat.le_refl _, rfl, rfl⟩

set_option maxRecDepth 100000 in
set_option maxHeartbeats 2000000 in
theorem zb_FnSemiRsrvSeparatorShape (s : ByteArray) (a1 a2 a3 a4 a5 a6 a7 a8 a9 a10 a11 : Value) (w : World) (hs : s.size ≤ maxLen) :
    Calls Tryz.prog 10 #[.string s, a1, a2, a3, a4, a5, a6, a7, a8, a9, a10, a11] w fun e w' => e = .returned (.bool (decide (s.size ≤ 1048576))) ∧ w = w' := by
  unfold maxLen at hs
  by_cases h : s.size ≤ 1048576
  · have hI : (s.size : Int) ≤ 1048576 := by omega
    have e : decide (s.size ≤ 1048576) = true := by simp [h]
    rw [e]
    clear h e hs
    go_enter Tryz.func10, Tryz.ntmps10
    go_wp2
    go_ret
    exact ⟨rfl, rfl⟩
  · have hI : (1048576 : Int) < (s.size : Int) := by omega
    have hJ : (s.size : Int) ≤ 9223372036854775807 := by omega
    have e : decide (s.size ≤ 1048576) = false := by simp [h]
    rw [e]
    clear h e hs
    go_enter Tryz.func10, Tryz.ntmps10
    go_wp2
    go_ret
    exact ⟨rfl, rfl⟩

set_option maxRecDepth 100000 in
set_option maxHeartbeats 8000000 in
theorem cs_main (s0 : ByteArray) (b1 b2 b3 b4 b5 b6 : Bool) (k7 k8 k9 k10 k11 : Nat) (w : World) (hs : s0.size ≤ maxLen) :
    Calls Tryz.prog 4 #[.string s0, .bool b1, .bool b2, .bool b3, .bool b4, .bool b5, .bool b6, .int .u8 (k7 : Int), .int .u64 (k8 : Int), .int .u64 (k9 : Int), .int .u64 (k10 : Int), .int .u64 (k11 : Int)] w fun e w' => e = .returned (.bool true) ∧ Below w.heap.size w w' := by
  have hzb := zb_FnSemiRsrvSeparatorShape s0 (.bool b1) (.bool b2) (.bool b3) (.bool b4) (.bool b5) (.bool b6) (.int .u8 (k7 : Int)) (.int .u64 (k8 : Int)) (.int .u64 (k9 : Int)) (.int .u64 (k10 : Int)) (.int .u64 (k11 : Int)) w hs
  clear hs
  by_cases hs0 : s0.size ≤ 1048576
  rotate_left
  · simp only [hs0, decide_false] at hzb
    have HZB := Lib.hid hzb
    clear hzb hs0
    go_enter Tryz.func4, Tryz.ntmps4
    go_wp2_with (go_at_call 10; refine HZB.out.mono ?_; rintro e w1 ⟨rfl, rfl⟩)
    go_ret
    exact ⟨rfl, Below.refl _ _⟩
  simp only [hs0, decide_true] at hzb
  have HZB := Lib.hid hzb
  have hsI : (s0.size : Int) ≤ 1048576 := by omega
  clear hzb
  by_cases h7 : 2 < k7
  · have h7I : (2 : Int) < (k7 : Int) := by omega
    clear h7 hs0
    go_enter Tryz.func4, Tryz.ntmps4
    go_wp2_with (go_at_call 10; refine HZB.out.mono ?_; rintro e w1 ⟨rfl, rfl⟩)
    go_ret
    exact ⟨rfl, Below.refl _ _⟩
  have h7I : (k7 : Int) ≤ 2 := by omega
  have hbi := zz_badIndent k8 k9
  by_cases hb : 1024 < k8 ∨ 1024 < k9 ∨ 65536 < k8 * k9
  · simp only [hb, decide_true] at hbi
    have HBI := Lib.hid hbi
    clear hbi hb h7 hs0
    go_enter Tryz.func4, Tryz.ntmps4
    go_wp2_with (first
      | (go_at_call 10; refine HZB.out.mono ?_; rintro e w1 ⟨rfl, rfl⟩)
      | (go_at_call 6; refine (HBI.out _).mono ?_; rintro e w1 ⟨rfl, hw⟩; obtain rfl := hw.symm))
    go_ret
    exact ⟨rfl, Below.refl _ _⟩
  simp only [hb, decide_false] at hbi
  have HBI := Lib.hid hbi
  clear hbi
  by_cases h10 : 1048576 < k10
  · have h10I : (1048576 : Int) < (k10 : Int) := by omega
    clear hb h10 h7 hs0
    go_enter Tryz.func4, Tryz.ntmps4
    go_wp2_with (first
      | (go_at_call 10; refine HZB.out.mono ?_; rintro e w1 ⟨rfl, rfl⟩)
      | (go_at_call 6; refine (HBI.out _).mono ?_; rintro e w1 ⟨rfl, hw⟩; obtain rfl := hw.symm))
    go_ret
    exact ⟨rfl, Below.refl _ _⟩
  have h10I : (k10 : Int) ≤ (1048576 : Int) := by omega
  by_cases h11 : 262143 < k11
  · have h11I : (262143 : Int) < (k11 : Int) := by omega
    clear hb h10 h11 h7 hs0
    go_enter Tryz.func4, Tryz.ntmps4
    go_wp2_with (first
      | (go_at_call 10; refine HZB.out.mono ?_; rintro e w1 ⟨rfl, rfl⟩)
      | (go_at_call 6; refine (HBI.out _).mono ?_; rintro e w1 ⟨rfl, hw⟩; obtain rfl := hw.symm))
    go_ret
    exact ⟨rfl, Below.refl _ _⟩
  have h11I : (k11 : Int) ≤ (262143 : Int) := by omega
  obtain ⟨v, hv⟩ : ∃ v, v = stVS b1 b2 b4 b5 b3 b6 k7 k8 k9 k10 := ⟨_, rfl⟩
  obtain ⟨v2, hv2⟩ : ∃ v2, v2 = sSr v k11 := ⟨_, rfl⟩
  obtain ⟨p, hp⟩ : ∃ p : ByteArray, p = ⟨(mSr v k11).toArray⟩ := ⟨_, rfl⟩
  obtain ⟨out, hout⟩ : ∃ out : ByteArray, out = ⟨(mSr v k11 ++ s0.data.toList).toArray⟩ := ⟨_, rfl⟩
  have hvb : v.Bd := by rw [hv]; exact ⟨by show k8 * k9 ≤ _; omega, by show k9 ≤ _; omega, by show k10 ≤ _; omega⟩
  have hst : ∀ W, Calls Tryz.prog 7 _ W _ := fun W => zz_state v b1 b2 b4 b5 b3 b6 k7 k8 k9 k10 hv W
  have HSt := Lib.hid hst
  have hrp : ∀ W, Calls Tryz.prog 11 _ W _ := fun W => zz_semiRsrv v (by rw [hv]; rfl) hvb s0 hs0 k11 (by omega) W
  rw [← hv2, ← hout] at hrp
  have HRp := Lib.hid hrp
  have hsep : SepP p := by rw [hp]; exact sep_mSr v k11
  have hlen := mSr_len v k11
  have hil := mIndent_le v hvb
  have hol : out.data.toList = p.data.toList ++ s0.data.toList := by rw [hout, hp]
  have hpz : p.size = (mSr v k11).length := by rw [hp]; rfl
  obtain ⟨n, hn⟩ : ∃ n, n = p.size := ⟨_, rfl⟩
  have hoz : out.size = n + s0.size := by
    rw [show out.size = out.data.toList.length from rfl, hol, List.length_append, hn]
    rfl
  have hszn : (out.size : Int) = (n : Int) + (s0.size : Int) := by omega
  have hnI : (n : Int) ≤ 65542 := by omega
  have hx1 : out.extract n out.size = s0 := by
    refine ByteArray.ext (Array.toList_inj.1 ?_)
    rw [ByteArray.data_extract, Array.toList_extract, hol]
    simp only [List.extract_eq_take_drop]
    rw [hn, show p.size = p.data.toList.length from rfl, List.drop_left, List.take_of_length_le]
    rw [hoz, hn]
    show s0.data.toList.length ≤ _
    have : s0.data.toList.length = s0.size := rfl
    rw [show p.data.toList.length = p.size from rfl]
    omega
  have hx2 : out.extract 0 n = p := by
    refine ByteArray.ext (Array.toList_inj.1 ?_)
    rw [ByteArray.data_extract, Array.toList_extract, hol]
    simp only [List.extract_eq_take_drop, List.drop_zero, Nat.sub_zero]
    rw [hn, show p.size = p.data.toList.length from rfl, List.take_left]
  have HSep := Lib.hid (fun W => zz_isSep p hsep (by omega) W)
  obtain ⟨hf1, hf2, hf3⟩ := sSr_facts v k11
  rw [← hv2] at hf1 hf2 hf3
  have hlnI : (k10 : Int) ≤ (v2.ln : Int) := by
    have : v.ln = k10 := by rw [hv]; rfl
    omega
  have hwsI : (v2.ws : Int) = 1 := by omega
  have hsm : v2.sm = b6 := by rw [hf3, hv]; rfl
  have HWs := Lib.hid (And.intro hwsI hsm)
  have HLn := Lib.hid hlnI
  clear hst hrp hsep hlen hil hol hpz hp hout hvb hv hv2 hf1 hf2 hf3 hb h10 h11 h7 hs0 hoz hn
  go_enter Tryz.func4, Tryz.ntmps4
  go_wp2_with (first
    | (go_at_call 10; refine HZB.out.mono ?_; rintro e w1 ⟨rfl, rfl⟩)
    | (go_at_call 6; refine (HBI.out _).mono ?_; rintro e w1 ⟨rfl, hw⟩; obtain rfl := hw.symm)
    | (go_at_call 7; refine (HSt.out _).mono ?_; rintro e w1 ⟨rfl, hu1⟩; have HU1 := Lib.hid hu1; clear hu1)
    | (go_at_call 11; refine (HRp.out _).mono ?_; rintro e w2 ⟨rfl, hu2⟩; have HU2 := Lib.hid hu2; clear hu2)
    | (go_at_call 12; refine (HSep.out _).mono ?_; rintro e w3 ⟨rfl, rfl⟩))
  go_ret
  exact ⟨rfl, (((HU1.out.alloc _).trans HU2.out).alloc _).below (fun k h => h.elim) (Nat.le_refl _)⟩
end Go.Proofs.YtgcoopjkjeoflaaGreatFmtR
