/-
  n010_157.FnRightParenOneParenLineMonotone: the walk.
-/
import Derived.Test.YtgcoopjkjeoflaaGreatFmtRCc
import GoSem.ClaimData
namespace Go.Proofs.YtgcoopjkjeoflaaGreatFmtR
open Go.RowKit

set_option maxRecDepth 100000 in
theorem zz_max (a c : Nat) (w : World) : Calls Tryz.prog 9 #[.int .u64 (a : Int), .int .u64 (c : Int)] w fun e w' => e = .returned (.int .u64 ((max a c : Nat) : Int)) ∧ w' = w := by
  by_cases h : c < a
  · have hI : (c : Int) < (a : Int) := by omega
    have e : max a c = a := by omega
    rw [e]
    clear h e
    go_enter Tryz.func9, Tryz.ntmps9
    go_wp2
    go_ret
    exact ⟨rfl, rfl⟩
  · have hI : (a : Int) ≤ (c : Int) := by omega
    have e : max a c = c := by omega
    rw [e]
    clear h e
    go_enter Tryz.func9, Tryz.ntmps9
    go_wp2
    go_ret
    exact ⟨rfl, rfl⟩

theorem rp_cases (c : UInt8) : ((c.toNat : Int) = 41 ∧ c = 41) ∨ ((c.toNat : Int) = 10 ∧ c = 10) ∨ (((c.toNat : Int) == 41) = false ∧ ((c.toNat : Int) == 10) = false ∧ c ≠ 41 ∧ c ≠ 10) := by
  by_cases h1 : c = 41
  · subst h1; exact .inl ⟨rfl, rfl⟩
  by_cases h2 : c = 10
  · subst h2; exact .inr (.inl ⟨rfl, rfl⟩)
  have hne : ∀ d : UInt8, c ≠ d → ((c.toNat : Int) == (d.toNat : Int)) = false := fun d hd => by
    rw [beq_eq_false_iff_ne]
    intro e
    exact hd (UInt8.toNat_inj.1 (by omega))
  exact .inr (.inr ⟨hne 41 h1, hne 10 h2, h1, h2⟩)

theorem mIndent_no (v : VS) (c : UInt8) (h1 : c ≠ 255) (h2 : c ≠ 9) (h3 : c ≠ 32) : (mIndent v).count c = 0 := by
  rw [List.count_eq_zero]
  intro hc
  rcases mIndent_bytes v c hc with h | h | h
  · exact h1 h
  · exact h2 h
  · exact h3 h
theorem mRp_41 (v : VS) (L : Nat) : (mRp v L ++ [41]).count 41 = 1 := by
  have h := mIndent_no v 41 (by decide) (by decide) (by decide)
  unfold mRp mNls
  split
  · simp
  · split
    · simp
    · split
      · split <;> simp [h]
      · simp
theorem mRp_10 (v : VS) (L : Nat) : (mRp v L ++ [41]).count 10 ≤ 2 ∧ (0 < (mRp v L ++ [41]).count 10 → (mRp v L ++ [41]).head? = some 10) := by
  have h := mIndent_no v 10 (by decide) (by decide) (by decide)
  unfold mRp mNls
  split
  · simp
  · split
    · simp
    · split
      · split <;> simp [h]
      · simp

set_option maxRecDepth 100000 in
set_option maxHeartbeats 8000000 in
theorem cr_main (b0 b1 b2 b3 b4 : Bool) (k5 k6 k7 k8 : Nat) (w : World) :
    Calls Tryz.prog 3 #[.bool b0, .bool b1, .bool b2, .bool b3, .bool b4, .int .u64 (k5 : Int), .int .u64 (k6 : Int), .int .u64 (k7 : Int), .int .u64 (k8 : Int)] w fun e w' => e = .returned (.bool true) ∧ Below w.heap.size w w' := by
  have hbi := zz_badIndent k5 k6
  by_cases hb : 1024 < k5 ∨ 1024 < k6 ∨ 65536 < k5 * k6
  · simp only [hb, decide_true] at hbi
    have HBI := Lib.hid hbi
    clear hbi hb
    go_enter Tryz.func3, Tryz.ntmps3
    go_wp2_with (go_at_call 6; refine (HBI.out _).mono ?_; rintro e w1 ⟨rfl, hw⟩; obtain rfl := hw.symm)
    go_ret
    exact ⟨rfl, Below.refl _ _⟩
  simp only [hb, decide_false] at hbi
  have HBI := Lib.hid hbi
  clear hbi
  by_cases h7 : 1048576 < k7
  · have h7I : (1048576 : Int) < (k7 : Int) := by omega
    clear hb h7
    go_enter Tryz.func3, Tryz.ntmps3
    go_wp2_with (go_at_call 6; refine (HBI.out _).mono ?_; rintro e w1 ⟨rfl, hw⟩; obtain rfl := hw.symm)
    go_ret
    exact ⟨rfl, Below.refl _ _⟩
  have h7I : (k7 : Int) ≤ (1048576 : Int) := by omega
  by_cases h8 : 262143 < k8
  · have h8I : (262143 : Int) < (k8 : Int) := by omega
    clear hb h7 h8
    go_enter Tryz.func3, Tryz.ntmps3
    go_wp2_with (go_at_call 6; refine (HBI.out _).mono ?_; rintro e w1 ⟨rfl, hw⟩; obtain rfl := hw.symm)
    go_ret
    exact ⟨rfl, Below.refl _ _⟩
  have h8I : (k8 : Int) ≤ (262143 : Int) := by omega
  obtain ⟨v, hv⟩ : ∃ v, v = stVS b0 b1 b3 b4 b2 false 0 k5 k6 k7 := ⟨_, rfl⟩
  obtain ⟨v2, hv2⟩ : ∃ v2, v2 = sRp v k8 := ⟨_, rfl⟩
  obtain ⟨out, hout⟩ : ∃ out : ByteArray, out = ⟨(mRp v k8 ++ [41]).toArray⟩ := ⟨_, rfl⟩
  have hvb : v.Bd := by rw [hv]; exact ⟨by show k5 * k6 ≤ _; omega, by show k6 ≤ _; omega, by show k7 ≤ _; omega⟩
  have hst : ∀ W, Calls Tryz.prog 7 _ W _ := fun W => zz_state v b0 b1 b3 b4 b2 false 0 k5 k6 k7 hv W
  have HSt := Lib.hid hst
  have hrp : ∀ W, Calls Tryz.prog 8 _ W _ := fun W => zz_rightParen v (by rw [hv]; rfl) hvb k8 (by omega) W
  rw [← hv2, ← hout] at hrp
  have HRp := Lib.hid hrp
  have h41 := mRp_41 v k8
  have h10 := mRp_10 v k8
  have hlen := mRp_len v k8
  have hil := mIndent_le v hvb
  have hol : out.data.toList = mRp v k8 ++ [41] := by rw [hout]
  rw [← hol] at h41 h10
  obtain ⟨n, hn⟩ : ∃ n, out.size = n + 1 := ⟨(mRp v k8).length, by rw [show out.size = out.data.toList.length from rfl, hol]; simp⟩
  have hszn : (out.size : Int) = (n : Int) + 1 := by omega
  have hnI : (n : Int) ≤ 1099511627776 := by
    have h1 : out.size = (mRp v k8).length + 1 := by rw [show out.size = out.data.toList.length from rfl, hol]; simp
    omega
  have hlast : out[n]'(by omega) = 41 := by
    show out.data[n]'_ = 41
    have h2 : out.data.toList[n]'(by rw [show out.data.toList.length = out.size from rfl]; omega) = 41 := by
      have h3 : n = (mRp v k8).length := by
        have h1 : out.size = (mRp v k8).length + 1 := by rw [show out.size = out.data.toList.length from rfl, hol]; simp
        omega
      simp only [hol, h3]
      simp
    simpa using h2
  have hln : v2.ln = k7 ∨ v2.ln = max k7 k8 := by
    rw [hv2]
    have : v.ln = k7 := by rw [hv]; rfl
    have := sRp_ln v k8
    omega
  have hws : v2.ws = 1 := by rw [hv2]; exact sRp_ws1 v k8
  have hwsI : (v2.ws : Int) = 1 := by omega
  have HO := Lib.hid (And.intro h41 (And.intro h10 (And.intro hol hn)))
  have HWs := Lib.hid hwsI
  clear hwsI hst hrp h41 h10 hlen hil hol hout hvb hv hv2 hws hb h7 h8
  go_enter Tryz.func3, Tryz.ntmps3
  go_wp2_with (first
    | (go_at_call 6; refine (HBI.out _).mono ?_; rintro e w1 ⟨rfl, hw⟩; obtain rfl := hw.symm)
    | (go_at_call 7; refine (HSt.out _).mono ?_; rintro e w1 ⟨rfl, hu1⟩; have HU1 := Lib.hid hu1; clear hu1)
    | (go_at_call 8; refine (HRp.out _).mono ?_; rintro e w2 ⟨rfl, hu2⟩; have HU2 := Lib.hid hu2; clear hu2))
  go_loopg [22, 23, 24] (out.size) (fun k v22 v23 v24 wr => ∃ i p q : Nat, v24 = .int .i64 (i : Int) ∧ v22 = .int .i64 (p : Int) ∧ v23 = .int .i64 (q : Int) ∧ i + k = out.size ∧ p = (out.data.toList.take i).count 41 ∧ q = (out.data.toList.take i).count 10 ∧ wr = w2.alloc (.cells (stC v2) 25))
  case atStart => exact ⟨0, 0, 0, rfl, rfl, rfl, by omega, by simp, by simp, rfl⟩
  case round =>
    obtain ⟨i, p, q, rfl, rfl, rfl, hik, hp, hq, rfl⟩ := hrel
    have hpi : p ≤ i := by rw [hp]; exact Nat.le_trans List.count_le_length (by rw [List.length_take]; omega)
    have hqi : q ≤ i := by rw [hq]; exact Nat.le_trans List.count_le_length (by rw [List.length_take]; omega)
    have hiI : (i : Int) ≤ (n : Int) + 1 := by omega
    have hpI : (p : Int) ≤ 1099511627777 := by omega
    have hqI : (q : Int) ≤ 1099511627777 := by omega
    have HK := Lib.hid (And.intro hik (And.intro hp hq))
    clear hik hpi hqi hp hq
    by_cases hlt : i < out.size
    · have hltI : (i : Int) < (n : Int) + 1 := by omega
      obtain ⟨c, hc⟩ : ∃ c, out[i]'hlt = c := ⟨_, rfl⟩
      have hcl : out.data.toList[i]'hlt = c := hc
      have ht : out.data.toList.take (i + 1) = out.data.toList.take i ++ [c] := by rw [List.take_succ_eq_append_getElem hlt, hcl]
      have HT := Lib.hid ht
      have hcase := rp_cases c
      clear hcl ht
      rcases hcase with ⟨h1, h2⟩ | ⟨h1, h2⟩ | ⟨h1, h2, h3, h4⟩
      · clear h2
        go_wp2_with fail
        go_roundg (out.size - (i + 1))
        case measure => have := HK.out.1; omega
        case rel =>
          have hc41 : c = 41 := UInt8.toNat_inj.1 (by show c.toNat = 41; omega)
          refine ⟨i + 1, p + 1, q, by go_num, by go_num, rfl, by have := HK.out.1; omega, ?_, ?_, rfl⟩
          · rw [HT.out, List.count_append, ← HK.out.2.1, hc41]; rfl
          · rw [HT.out, List.count_append, ← HK.out.2.2, hc41]; rfl
      · clear h2
        go_wp2_with fail
        go_roundg (out.size - (i + 1))
        case measure => have := HK.out.1; omega
        case rel =>
          have hc10 : c = 10 := UInt8.toNat_inj.1 (by show c.toNat = 10; omega)
          refine ⟨i + 1, p, q + 1, by go_num, rfl, by go_num, by have := HK.out.1; omega, ?_, ?_, rfl⟩
          · rw [HT.out, List.count_append, ← HK.out.2.1, hc10]; rfl
          · rw [HT.out, List.count_append, ← HK.out.2.2, hc10]; rfl
      · have HC := Lib.hid (And.intro h3 h4)
        clear h3 h4
        go_wp2_with fail
        go_roundg (out.size - (i + 1))
        case measure => have := HK.out.1; omega
        case rel =>
          refine ⟨i + 1, p, q, by go_num, rfl, rfl, by have := HK.out.1; omega, ?_, ?_, rfl⟩
          · rw [HT.out, List.count_append, ← HK.out.2.1, List.count_singleton]; simp [HC.out.1]
          · rw [HT.out, List.count_append, ← HK.out.2.2, List.count_singleton]; simp [HC.out.2]
    · obtain rfl : i = out.size := by have := HK.out.1; omega
      have hall : out.data.toList.take out.size = out.data.toList := List.take_of_length_le (Nat.le_refl _)
      have hp := HK.out.2.1
      have hq := HK.out.2.2
      rw [hall] at hp hq
      rw [HO.out.1] at hp
      have hq2 : q ≤ 2 := by rw [hq]; exact HO.out.2.1.1
      have hq0 : q = 0 ∨ (1 ≤ q ∧ out[0]'(by omega) = 10) := by
        by_cases h : q = 0
        · exact .inl h
        · have h1 := HO.out.2.1.2 (by omega)
          refine .inr ⟨by omega, ?_⟩
          have h2 : out.data.toList[0]? = some 10 := by rw [← List.head?_eq_getElem?]; exact h1
          have h3 : out.data[0]? = some 10 := by simpa using h2
          exact Array.getElem_eq_iff.2 h3
      have hcase : (v2.ln = k7) ∨ (((v2.ln : Int) == (k7 : Int)) = false ∧ v2.ln = max k7 k8) := by
        by_cases h : v2.ln = k7
        · exact .inl h
        · exact .inr ⟨by rw [beq_eq_false_iff_ne]; omega, hln.resolve_left h⟩
      obtain ⟨M, hM⟩ : ∃ M, M = max k7 k8 := ⟨_, rfl⟩
      have hmx := fun W => zz_max k7 k8 W
      rw [← hM] at hmx hcase
      have HM := Lib.hid hmx
      have HU3 := Lib.hid ((HU1.out.alloc (.cells (stC v) 25)).trans HU2.out)
      have c10 : (w2.alloc (.cells (stC v2) 25)).cell? ⟨w2.heap.size, 10, none⟩ = some (.int .u8 1) := (cell_at (heap_alloc_new w2 _) 10).trans (by rw [← HWs.out]; rfl)
      have hq2I : (q : Int) ≤ 2 := by omega
      subst hp
      clear hq hln hM hmx hq2
      rcases hq0 with rfl | ⟨hq1, h10⟩
      · rcases hcase with hl | ⟨hl1, hl2⟩
        · have c8 : (w2.alloc (.cells (stC v2) 25)).cell? ⟨w2.heap.size, 8, none⟩ = some (.int .u64 (k7 : Int)) := (cell_at (heap_alloc_new w2 _) 8).trans (by rw [← hl]; rfl)
          clear hl
          go_wp2_with fail
          refine wp_region_held_drew (S := fun W => W.cell? ⟨w2.heap.size, 8, none⟩ = some (.int .u64 (k7 : Int))) (by kernel_rfl) c8 (fun hHeld => ?_)
          refine wpAnyH_take (i := 0) (v := ?va0) rfl (by kernel_rfl) (by kernel_rfl) (by kernel_rfl) (fun _ _ _ h => h) (Or.inl ⟨by rfl, ?ha0⟩) (by assumption) ?ra0
          case ha0 => (intro w hSw; (try dsimp only at hSw); go_simp; try with_reducible rfl)
          try simp only [List.getElem_toArray, List.getElem_cons_zero, Act.put, List.setIfInBounds_toArray, List.set_cons_zero, List.set_cons_succ]
          refine wpAnyH_take (i := 1) (v := ?va1) rfl (by kernel_rfl) (by kernel_rfl) (by kernel_rfl) (fun _ _ _ h => h) (Or.inl ⟨by rfl, ?ha1⟩) (by assumption) ?ra1
          case ha1 => (intro w hSw; (try dsimp only at hSw); go_simp; try with_reducible rfl)
          try simp only [List.getElem_toArray, List.getElem_cons_zero, List.getElem_cons_succ, Act.put, List.setIfInBounds_toArray, List.set_cons_zero, List.set_cons_succ]
          refine wpAnyH_take (i := 2) (v := ?va2) rfl (by kernel_rfl) (by kernel_rfl) (by kernel_rfl) (fun _ _ _ h => h) (Or.inl ⟨by rfl, ?ha2⟩) (by assumption) ?ra2
          case ha2 => (intro w hSw; (try dsimp only at hSw); go_simp; try with_reducible rfl)
          try simp only [List.getElem_toArray, List.getElem_cons_zero, List.getElem_cons_succ, Act.put, List.setIfInBounds_toArray, List.set_cons_zero, List.set_cons_succ]
          refine wpAnyH_take (i := 3) (v := ?va3) rfl (by kernel_rfl) (by kernel_rfl) (by kernel_rfl) (fun _ _ _ h => h) (Or.inl ⟨by rfl, ?ha3⟩) (by assumption) ?ra3
          case ha3 => (intro w hSw; (try dsimp only at hSw); go_simp; try with_reducible rfl)
          try simp only [List.getElem_toArray, List.getElem_cons_zero, List.getElem_cons_succ, Act.put, List.setIfInBounds_toArray, List.set_cons_zero, List.set_cons_succ]
          refine wpAnyH_take (i := 4) (v := ?va4) rfl (by kernel_rfl) (by kernel_rfl) (by kernel_rfl) (fun _ _ _ h => h) (Or.inl ⟨by rfl, ?ha4⟩) (by assumption) ?ra4
          case ha4 => (intro w hSw; (try dsimp only at hSw); go_simp; try with_reducible rfl)
          try simp only [List.getElem_toArray, List.getElem_cons_zero, List.getElem_cons_succ, Act.put, List.setIfInBounds_toArray, List.set_cons_zero, List.set_cons_succ]
          refine wpAnyH_take (i := 5) (v := undef) rfl (by kernel_rfl) (by kernel_rfl) (by kernel_rfl) (fun _ _ _ h => h) (Or.inr ⟨by rfl, rfl⟩) (by assumption) ?_
          try simp only [List.getElem_toArray, List.getElem_cons_zero, List.getElem_cons_succ, Act.put, List.setIfInBounds_toArray, List.set_cons_zero, List.set_cons_succ]
          refine wpAnyH_take (i := 6) (v := undef) rfl (by kernel_rfl) (by kernel_rfl) (by kernel_rfl) (fun _ _ _ h => h) (Or.inr ⟨by rfl, rfl⟩) (by assumption) ?_
          try simp only [List.getElem_toArray, List.getElem_cons_zero, List.getElem_cons_succ, Act.put, List.setIfInBounds_toArray, List.set_cons_zero, List.set_cons_succ]
          refine wpAnyH_take (i := 7) (v := undef) rfl (by kernel_rfl) (by kernel_rfl) (by kernel_rfl) (fun _ _ _ h => h) (Or.inr ⟨by rfl, rfl⟩) (by assumption) ?_
          try simp only [List.getElem_toArray, List.getElem_cons_zero, List.getElem_cons_succ, Act.put, List.setIfInBounds_toArray, List.set_cons_zero, List.set_cons_succ]
          refine wpAnyH_take (i := 8) (v := undef) rfl (by kernel_rfl) (by kernel_rfl) (by kernel_rfl) (fun _ _ _ h => h) (Or.inr ⟨by rfl, rfl⟩) (by assumption) ?_
          try simp only [List.getElem_toArray, List.getElem_cons_zero, List.getElem_cons_succ, Act.put, List.setIfInBounds_toArray, List.set_cons_zero, List.set_cons_succ]
          refine wpAnyH_take (i := 9) (v := undef) rfl (by kernel_rfl) (by kernel_rfl) (by kernel_rfl) (fun _ _ _ h => h) (Or.inr ⟨by rfl, rfl⟩) (by assumption) ?_
          try simp only [List.getElem_toArray, List.getElem_cons_zero, List.getElem_cons_succ, Act.put, List.setIfInBounds_toArray, List.set_cons_zero, List.set_cons_succ]
          refine wpAnyH_take (i := 10) (v := undef) rfl (by kernel_rfl) (by kernel_rfl) (by kernel_rfl) (fun _ _ _ h => h) (Or.inr ⟨by rfl, rfl⟩) (by assumption) ?_
          try simp only [List.getElem_toArray, List.getElem_cons_zero, List.getElem_cons_succ, Act.put, List.setIfInBounds_toArray, List.set_cons_zero, List.set_cons_succ]
          refine wpAnyH_take (i := 11) (v := ?va11) rfl (by kernel_rfl) (by kernel_rfl) (by kernel_rfl) (fun _ _ _ h => h) (Or.inl ⟨by rfl, ?ha11⟩) (by assumption) ?ra11
          case ha11 => (intro w hSw; (try dsimp only at hSw); go_simp; try with_reducible rfl)
          try simp only [List.getElem_toArray, List.getElem_cons_zero, List.getElem_cons_succ, Act.put, List.setIfInBounds_toArray, List.set_cons_zero, List.set_cons_succ]
          refine wpAnyH_done (by kernel_rfl) ?_ _
          go_wp2_with fail
          go_ret
          exact ⟨by first | rfl | simp, ((HU3.out.alloc _).drew).below (fun k h => h.elim) (Nat.le_refl _)⟩
        · have c8 : (w2.alloc (.cells (stC v2) 25)).cell? ⟨w2.heap.size, 8, none⟩ = some (.int .u64 (M : Int)) := (cell_at (heap_alloc_new w2 _) 8).trans (by rw [← hl2]; rfl)
          rw [hl2] at hl1
          have hl1d : ¬ M = k7 := by rw [beq_eq_false_iff_ne] at hl1; omega
          have hl1b : ((M : Int) != (k7 : Int)) = true := by rw [bne, hl1]; rfl
          have hl1n : (M == k7) = false := by rw [beq_eq_false_iff_ne]; exact hl1d
          clear hl2
          go_wp2_with fail
          refine wp_region_held_drew (S := fun W => W.cell? ⟨w2.heap.size, 8, none⟩ = some (.int .u64 (M : Int))) (by kernel_rfl) c8 (fun hHeld => ?_)
          refine wpAnyH_take (i := 0) (v := ?vb0) rfl (by kernel_rfl) (by kernel_rfl) (by kernel_rfl) (fun _ _ _ h => h) (Or.inl ⟨by rfl, ?hb0⟩) (by assumption) ?rb0
          case hb0 => (intro w hSw; (try dsimp only at hSw); go_simp; try with_reducible rfl)
          try simp only [List.getElem_toArray, List.getElem_cons_zero, Act.put, List.setIfInBounds_toArray, List.set_cons_zero, List.set_cons_succ]
          refine wpAnyH_take (i := 1) (v := ?vb1) rfl (by kernel_rfl) (by kernel_rfl) (by kernel_rfl) (fun _ _ _ h => h) (Or.inl ⟨by rfl, ?hb1⟩) (by assumption) ?rb1
          case hb1 => (intro w hSw; (try dsimp only at hSw); go_simp; try with_reducible rfl)
          try simp only [List.getElem_toArray, List.getElem_cons_zero, List.getElem_cons_succ, Act.put, List.setIfInBounds_toArray, List.set_cons_zero, List.set_cons_succ]
          refine wpAnyH_take (i := 2) (v := ?vb2) rfl (by kernel_rfl) (by kernel_rfl) (by kernel_rfl) (fun _ _ _ h => h) (Or.inl ⟨by rfl, ?hb2⟩) (by assumption) ?rb2
          case hb2 => (intro w hSw; (try dsimp only at hSw); go_simp; try with_reducible rfl)
          try simp only [List.getElem_toArray, List.getElem_cons_zero, List.getElem_cons_succ, Act.put, List.setIfInBounds_toArray, List.set_cons_zero, List.set_cons_succ]
          refine wpAnyH_take (i := 3) (v := ?vb3) rfl (by kernel_rfl) (by kernel_rfl) (by kernel_rfl) (fun _ _ _ h => h) (Or.inl ⟨by rfl, ?hb3⟩) (by assumption) ?rb3
          case hb3 => (intro w hSw; (try dsimp only at hSw); go_simp; try with_reducible rfl)
          try simp only [List.getElem_toArray, List.getElem_cons_zero, List.getElem_cons_succ, Act.put, List.setIfInBounds_toArray, List.set_cons_zero, List.set_cons_succ]
          refine wpAnyH_take (i := 4) (v := ?vb4) rfl (by kernel_rfl) (by kernel_rfl) (by kernel_rfl) (fun _ _ _ h => h) (Or.inl ⟨by rfl, ?hb4⟩) (by assumption) ?rb4
          case hb4 => (intro w hSw; (try dsimp only at hSw); go_simp; try with_reducible rfl)
          try simp only [List.getElem_toArray, List.getElem_cons_zero, List.getElem_cons_succ, Act.put, List.setIfInBounds_toArray, List.set_cons_zero, List.set_cons_succ]
          refine wpAnyH_take (i := 5) (v := ?vb5) rfl (by kernel_rfl) (by kernel_rfl) (by kernel_rfl) (fun _ _ _ h => h) (Or.inl ⟨by rfl, ?hb5⟩) (by assumption) ?rb5
          case hb5 => (intro w hSw; (try dsimp only at hSw); go_simp; try with_reducible rfl)
          try simp only [List.getElem_toArray, List.getElem_cons_zero, List.getElem_cons_succ, Act.put, List.setIfInBounds_toArray, List.set_cons_zero, List.set_cons_succ]
          refine wpAnyH_take (i := 6) (v := ?vb6) rfl (by kernel_rfl) (by kernel_rfl) (by kernel_rfl) (fun _ _ _ h => h) (Or.inl ⟨by rfl, ?hb6⟩) (by assumption) ?rb6
          case hb6 => (intro w hSw; (try dsimp only at hSw); go_simp; try with_reducible rfl)
          try simp only [List.getElem_toArray, List.getElem_cons_zero, List.getElem_cons_succ, Act.put, List.setIfInBounds_toArray, List.set_cons_zero, List.set_cons_succ]
          refine wpAnyH_take (i := 7) (v := ?vb7) rfl (by kernel_rfl) (by kernel_rfl) (by kernel_rfl) (fun _ _ _ h => h) (Or.inl ⟨by rfl, ?hb7⟩) (by assumption) ?rb7
          case hb7 => (intro w hSw; (try dsimp only at hSw); go_simp; try with_reducible rfl)
          try simp only [List.getElem_toArray, List.getElem_cons_zero, List.getElem_cons_succ, Act.put, List.setIfInBounds_toArray, List.set_cons_zero, List.set_cons_succ]
          refine wpAnyH_take (i := 8) (v := ?vb8) rfl (by kernel_rfl) (by kernel_rfl) (by kernel_rfl) (fun _ _ _ h => h) (Or.inl ⟨by rfl, ?hb8⟩) (by assumption) ?rb8
          case hb8 => (intro w hSw; (try dsimp only at hSw); go_simp; try with_reducible rfl)
          try simp only [List.getElem_toArray, List.getElem_cons_zero, List.getElem_cons_succ, Act.put, List.setIfInBounds_toArray, List.set_cons_zero, List.set_cons_succ]
          refine wpAnyH_ready (rs := [9]) (by kernel_rfl) (by simp) ?_
          refine AllReadyH.cons rfl (fun K hK => ?_) AllReadyH.nil
          go_simp
          go_wp2_with (go_at_call 9; refine (HM.out _).mono ?_; rintro e w5 ⟨rfl, rfl⟩)
          refine hK.out _ _ c8 (fun hS => ?_)
          clear hK K
          try simp only [List.getElem_toArray, List.getElem_cons_zero, List.getElem_cons_succ, Act.put, List.setIfInBounds_toArray, List.set_cons_zero, List.set_cons_succ]
          refine wpAnyH_take (i := 10) (v := ?vb10) rfl (by kernel_rfl) (by kernel_rfl) (by kernel_rfl) (fun _ _ _ h => h) (Or.inl ⟨by rfl, ?hb10⟩) (by assumption) ?rb10
          case hb10 => (intro w hSw; (try dsimp only at hSw); go_simp; try with_reducible rfl)
          try simp only [List.getElem_toArray, List.getElem_cons_zero, List.getElem_cons_succ, Act.put, List.setIfInBounds_toArray, List.set_cons_zero, List.set_cons_succ]
          refine wpAnyH_take (i := 11) (v := ?vb11) rfl (by kernel_rfl) (by kernel_rfl) (by kernel_rfl) (fun _ _ _ h => h) (Or.inl ⟨by rfl, ?hb11⟩) (by assumption) ?rb11
          case hb11 => (intro w hSw; (try dsimp only at hSw); go_simp; try with_reducible rfl)
          try simp only [List.getElem_toArray, List.getElem_cons_zero, List.getElem_cons_succ, Act.put, List.setIfInBounds_toArray, List.set_cons_zero, List.set_cons_succ]
          refine wpAnyH_done (by kernel_rfl) ?_ _
          go_wp2_with fail
          go_ret
          exact ⟨by first | rfl | simp, ((HU3.out.alloc _).drew).below (fun k h => h.elim) (Nat.le_refl _)⟩
      · have hq1I : (0 : Int) < (q : Int) := by omega
        clear hq1
        rcases hcase with hl | ⟨hl1, hl2⟩
        · have c8 : (w2.alloc (.cells (stC v2) 25)).cell? ⟨w2.heap.size, 8, none⟩ = some (.int .u64 (k7 : Int)) := (cell_at (heap_alloc_new w2 _) 8).trans (by rw [← hl]; rfl)
          clear hl
          go_wp2_with fail
          refine wp_region_held_drew (S := fun W => W.cell? ⟨w2.heap.size, 8, none⟩ = some (.int .u64 (k7 : Int))) (by kernel_rfl) c8 (fun hHeld => ?_)
          refine wpAnyH_take (i := 0) (v := ?vc0) rfl (by kernel_rfl) (by kernel_rfl) (by kernel_rfl) (fun _ _ _ h => h) (Or.inl ⟨by rfl, ?hc0⟩) (by assumption) ?rc0
          case hc0 => (intro w hSw; (try dsimp only at hSw); go_simp; try with_reducible rfl)
          try simp only [List.getElem_toArray, List.getElem_cons_zero, Act.put, List.setIfInBounds_toArray, List.set_cons_zero, List.set_cons_succ]
          refine wpAnyH_take (i := 1) (v := ?vc1) rfl (by kernel_rfl) (by kernel_rfl) (by kernel_rfl) (fun _ _ _ h => h) (Or.inl ⟨by rfl, ?hc1⟩) (by assumption) ?rc1
          case hc1 => (intro w hSw; (try dsimp only at hSw); go_simp; try with_reducible rfl)
          try simp only [List.getElem_toArray, List.getElem_cons_zero, List.getElem_cons_succ, Act.put, List.setIfInBounds_toArray, List.set_cons_zero, List.set_cons_succ]
          refine wpAnyH_take (i := 2) (v := ?vc2) rfl (by kernel_rfl) (by kernel_rfl) (by kernel_rfl) (fun _ _ _ h => h) (Or.inl ⟨by rfl, ?hc2⟩) (by assumption) ?rc2
          case hc2 => (intro w hSw; (try dsimp only at hSw); go_simp; try with_reducible rfl)
          try simp only [List.getElem_toArray, List.getElem_cons_zero, List.getElem_cons_succ, Act.put, List.setIfInBounds_toArray, List.set_cons_zero, List.set_cons_succ]
          refine wpAnyH_take (i := 3) (v := ?vc3) rfl (by kernel_rfl) (by kernel_rfl) (by kernel_rfl) (fun _ _ _ h => h) (Or.inl ⟨by rfl, ?hc3⟩) (by assumption) ?rc3
          case hc3 => (intro w hSw; (try dsimp only at hSw); go_simp; try with_reducible rfl)
          try simp only [List.getElem_toArray, List.getElem_cons_zero, List.getElem_cons_succ, Act.put, List.setIfInBounds_toArray, List.set_cons_zero, List.set_cons_succ]
          refine wpAnyH_take (i := 4) (v := ?vc4) rfl (by kernel_rfl) (by kernel_rfl) (by kernel_rfl) (fun _ _ _ h => h) (Or.inl ⟨by rfl, ?hc4⟩) (by assumption) ?rc4
          case hc4 => (intro w hSw; (try dsimp only at hSw); go_simp; try with_reducible rfl)
          try simp only [List.getElem_toArray, List.getElem_cons_zero, List.getElem_cons_succ, Act.put, List.setIfInBounds_toArray, List.set_cons_zero, List.set_cons_succ]
          refine wpAnyH_take (i := 5) (v := undef) rfl (by kernel_rfl) (by kernel_rfl) (by kernel_rfl) (fun _ _ _ h => h) (Or.inr ⟨by rfl, rfl⟩) (by assumption) ?_
          try simp only [List.getElem_toArray, List.getElem_cons_zero, List.getElem_cons_succ, Act.put, List.setIfInBounds_toArray, List.set_cons_zero, List.set_cons_succ]
          refine wpAnyH_take (i := 6) (v := undef) rfl (by kernel_rfl) (by kernel_rfl) (by kernel_rfl) (fun _ _ _ h => h) (Or.inr ⟨by rfl, rfl⟩) (by assumption) ?_
          try simp only [List.getElem_toArray, List.getElem_cons_zero, List.getElem_cons_succ, Act.put, List.setIfInBounds_toArray, List.set_cons_zero, List.set_cons_succ]
          refine wpAnyH_take (i := 7) (v := undef) rfl (by kernel_rfl) (by kernel_rfl) (by kernel_rfl) (fun _ _ _ h => h) (Or.inr ⟨by rfl, rfl⟩) (by assumption) ?_
          try simp only [List.getElem_toArray, List.getElem_cons_zero, List.getElem_cons_succ, Act.put, List.setIfInBounds_toArray, List.set_cons_zero, List.set_cons_succ]
          refine wpAnyH_take (i := 8) (v := undef) rfl (by kernel_rfl) (by kernel_rfl) (by kernel_rfl) (fun _ _ _ h => h) (Or.inr ⟨by rfl, rfl⟩) (by assumption) ?_
          try simp only [List.getElem_toArray, List.getElem_cons_zero, List.getElem_cons_succ, Act.put, List.setIfInBounds_toArray, List.set_cons_zero, List.set_cons_succ]
          refine wpAnyH_take (i := 9) (v := undef) rfl (by kernel_rfl) (by kernel_rfl) (by kernel_rfl) (fun _ _ _ h => h) (Or.inr ⟨by rfl, rfl⟩) (by assumption) ?_
          try simp only [List.getElem_toArray, List.getElem_cons_zero, List.getElem_cons_succ, Act.put, List.setIfInBounds_toArray, List.set_cons_zero, List.set_cons_succ]
          refine wpAnyH_take (i := 10) (v := undef) rfl (by kernel_rfl) (by kernel_rfl) (by kernel_rfl) (fun _ _ _ h => h) (Or.inr ⟨by rfl, rfl⟩) (by assumption) ?_
          try simp only [List.getElem_toArray, List.getElem_cons_zero, List.getElem_cons_succ, Act.put, List.setIfInBounds_toArray, List.set_cons_zero, List.set_cons_succ]
          refine wpAnyH_take (i := 11) (v := ?vc11) rfl (by kernel_rfl) (by kernel_rfl) (by kernel_rfl) (fun _ _ _ h => h) (Or.inl ⟨by rfl, ?hc11⟩) (by assumption) ?rc11
          case hc11 => (intro w hSw; (try dsimp only at hSw); go_simp; try with_reducible rfl)
          try simp only [List.getElem_toArray, List.getElem_cons_zero, List.getElem_cons_succ, Act.put, List.setIfInBounds_toArray, List.set_cons_zero, List.set_cons_succ]
          refine wpAnyH_done (by kernel_rfl) ?_ _
          go_wp2_with fail
          go_ret
          exact ⟨by first | rfl | simp, ((HU3.out.alloc _).drew).below (fun k h => h.elim) (Nat.le_refl _)⟩
        · have c8 : (w2.alloc (.cells (stC v2) 25)).cell? ⟨w2.heap.size, 8, none⟩ = some (.int .u64 (M : Int)) := (cell_at (heap_alloc_new w2 _) 8).trans (by rw [← hl2]; rfl)
          rw [hl2] at hl1
          have hl1d : ¬ M = k7 := by rw [beq_eq_false_iff_ne] at hl1; omega
          have hl1b : ((M : Int) != (k7 : Int)) = true := by rw [bne, hl1]; rfl
          have hl1n : (M == k7) = false := by rw [beq_eq_false_iff_ne]; exact hl1d
          clear hl2
          go_wp2_with fail
          refine wp_region_held_drew (S := fun W => W.cell? ⟨w2.heap.size, 8, none⟩ = some (.int .u64 (M : Int))) (by kernel_rfl) c8 (fun hHeld => ?_)
          refine wpAnyH_take (i := 0) (v := ?vd0) rfl (by kernel_rfl) (by kernel_rfl) (by kernel_rfl) (fun _ _ _ h => h) (Or.inl ⟨by rfl, ?hd0⟩) (by assumption) ?rd0
          case hd0 => (intro w hSw; (try dsimp only at hSw); go_simp; try with_reducible rfl)
          try simp only [List.getElem_toArray, List.getElem_cons_zero, Act.put, List.setIfInBounds_toArray, List.set_cons_zero, List.set_cons_succ]
          refine wpAnyH_take (i := 1) (v := ?vd1) rfl (by kernel_rfl) (by kernel_rfl) (by kernel_rfl) (fun _ _ _ h => h) (Or.inl ⟨by rfl, ?hd1⟩) (by assumption) ?rd1
          case hd1 => (intro w hSw; (try dsimp only at hSw); go_simp; try with_reducible rfl)
          try simp only [List.getElem_toArray, List.getElem_cons_zero, List.getElem_cons_succ, Act.put, List.setIfInBounds_toArray, List.set_cons_zero, List.set_cons_succ]
          refine wpAnyH_take (i := 2) (v := ?vd2) rfl (by kernel_rfl) (by kernel_rfl) (by kernel_rfl) (fun _ _ _ h => h) (Or.inl ⟨by rfl, ?hd2⟩) (by assumption) ?rd2
          case hd2 => (intro w hSw; (try dsimp only at hSw); go_simp; try with_reducible rfl)
          try simp only [List.getElem_toArray, List.getElem_cons_zero, List.getElem_cons_succ, Act.put, List.setIfInBounds_toArray, List.set_cons_zero, List.set_cons_succ]
          refine wpAnyH_take (i := 3) (v := ?vd3) rfl (by kernel_rfl) (by kernel_rfl) (by kernel_rfl) (fun _ _ _ h => h) (Or.inl ⟨by rfl, ?hd3⟩) (by assumption) ?rd3
          case hd3 => (intro w hSw; (try dsimp only at hSw); go_simp; try with_reducible rfl)
          try simp only [List.getElem_toArray, List.getElem_cons_zero, List.getElem_cons_succ, Act.put, List.setIfInBounds_toArray, List.set_cons_zero, List.set_cons_succ]
          refine wpAnyH_take (i := 4) (v := ?vd4) rfl (by kernel_rfl) (by kernel_rfl) (by kernel_rfl) (fun _ _ _ h => h) (Or.inl ⟨by rfl, ?hd4⟩) (by assumption) ?rd4
          case hd4 => (intro w hSw; (try dsimp only at hSw); go_simp; try with_reducible rfl)
          try simp only [List.getElem_toArray, List.getElem_cons_zero, List.getElem_cons_succ, Act.put, List.setIfInBounds_toArray, List.set_cons_zero, List.set_cons_succ]
          refine wpAnyH_take (i := 5) (v := ?vd5) rfl (by kernel_rfl) (by kernel_rfl) (by kernel_rfl) (fun _ _ _ h => h) (Or.inl ⟨by rfl, ?hd5⟩) (by assumption) ?rd5
          case hd5 => (intro w hSw; (try dsimp only at hSw); go_simp; try with_reducible rfl)
          try simp only [List.getElem_toArray, List.getElem_cons_zero, List.getElem_cons_succ, Act.put, List.setIfInBounds_toArray, List.set_cons_zero, List.set_cons_succ]
          refine wpAnyH_take (i := 6) (v := ?vd6) rfl (by kernel_rfl) (by kernel_rfl) (by kernel_rfl) (fun _ _ _ h => h) (Or.inl ⟨by rfl, ?hd6⟩) (by assumption) ?rd6
          case hd6 => (intro w hSw; (try dsimp only at hSw); go_simp; try with_reducible rfl)
          try simp only [List.getElem_toArray, List.getElem_cons_zero, List.getElem_cons_succ, Act.put, List.setIfInBounds_toArray, List.set_cons_zero, List.set_cons_succ]
          refine wpAnyH_take (i := 7) (v := ?vd7) rfl (by kernel_rfl) (by kernel_rfl) (by kernel_rfl) (fun _ _ _ h => h) (Or.inl ⟨by rfl, ?hd7⟩) (by assumption) ?rd7
          case hd7 => (intro w hSw; (try dsimp only at hSw); go_simp; try with_reducible rfl)
          try simp only [List.getElem_toArray, List.getElem_cons_zero, List.getElem_cons_succ, Act.put, List.setIfInBounds_toArray, List.set_cons_zero, List.set_cons_succ]
          refine wpAnyH_take (i := 8) (v := ?vd8) rfl (by kernel_rfl) (by kernel_rfl) (by kernel_rfl) (fun _ _ _ h => h) (Or.inl ⟨by rfl, ?hd8⟩) (by assumption) ?rd8
          case hd8 => (intro w hSw; (try dsimp only at hSw); go_simp; try with_reducible rfl)
          try simp only [List.getElem_toArray, List.getElem_cons_zero, List.getElem_cons_succ, Act.put, List.setIfInBounds_toArray, List.set_cons_zero, List.set_cons_succ]
          refine wpAnyH_ready (rs := [9]) (by kernel_rfl) (by simp) ?_
          refine AllReadyH.cons rfl (fun K hK => ?_) AllReadyH.nil
          go_simp
          go_wp2_with (go_at_call 9; refine (HM.out _).mono ?_; rintro e w5 ⟨rfl, rfl⟩)
          refine hK.out _ _ c8 (fun hS => ?_)
          clear hK K
          try simp only [List.getElem_toArray, List.getElem_cons_zero, List.getElem_cons_succ, Act.put, List.setIfInBounds_toArray, List.set_cons_zero, List.set_cons_succ]
          refine wpAnyH_take (i := 10) (v := ?vd10) rfl (by kernel_rfl) (by kernel_rfl) (by kernel_rfl) (fun _ _ _ h => h) (Or.inl ⟨by rfl, ?hd10⟩) (by assumption) ?rd10
          case hd10 => (intro w hSw; (try dsimp only at hSw); go_simp; try with_reducible rfl)
          try simp only [List.getElem_toArray, List.getElem_cons_zero, List.getElem_cons_succ, Act.put, List.setIfInBounds_toArray, List.set_cons_zero, List.set_cons_succ]
          refine wpAnyH_take (i := 11) (v := ?vd11) rfl (by kernel_rfl) (by kernel_rfl) (by kernel_rfl) (fun _ _ _ h => h) (Or.inl ⟨by rfl, ?hd11⟩) (by assumption) ?rd11
          case hd11 => (intro w hSw; (try dsimp only at hSw); go_simp; try with_reducible rfl)
          try simp only [List.getElem_toArray, List.getElem_cons_zero, List.getElem_cons_succ, Act.put, List.setIfInBounds_toArray, List.set_cons_zero, List.set_cons_succ]
          refine wpAnyH_done (by kernel_rfl) ?_ _
          go_wp2_with fail
          go_ret
          exact ⟨by first | rfl | simp, ((HU3.out.alloc _).drew).below (fun k h => h.elim) (Nat.le_refl _)⟩
end Go.Proofs.YtgcoopjkjeoflaaGreatFmtR
