/-
  n010_157.zzTrimRightSpace: what it leaves is what strings.TrimRightFunc leaves.
-/
import Derived.Test.YtmdkpihlhdjjaaaGreatFmtKWdX
import Derived.Test.YtmdkpihlhdjjaaaGreatFmtKFxAX
namespace Go.Proofs.YtmdkpihlhdjjaaaGreatFmt
open Go.RowKit

theorem ext_take (t : ByteArray) (n : Nat) : (t.extract 0 n).data.toList = t.data.toList.take n := by
  rw [ByteArray.data_extract, Array.toList_extract]
  simp [List.extract_eq_take_drop]
theorem trim_done {t : ByteArray} {n : Nat} (h : Lib.stripR n (t.data.toList.take n) = Lib.stripR t.data.toList.length t.data.toList) (h2 : Lib.stripR n (t.data.toList.take n) = t.data.toList.take n) : t.extract 0 n = trimB t := by
  refine ByteArray.ext (Array.toList_inj.1 ?_)
  rw [ext_take, trimB, trimR_bytes, ← h, h2]
theorem take_revs (l : List UInt8) (n : Nat) (h1 : 0 < n) (hn : n ≤ l.length) : (l.take n).reverse = (l[n - 1]'(by omega)) :: (l.take (n - 1)).reverse := take_rev1 l n h1 hn

/-! The facts of one round. -/
theorem tl_ws {l : List UInt8} {n : Nat} (h0 : 0 < n) (hn : n ≤ l.length) (h : ws1 (l[n - 1]'(by omega)) = true) : zzTl (l.take n).reverse = 1 := by
  rw [take_rev1 l n h0 hn]; exact zzTl_1 h
theorem tl_ws2 {l : List UInt8} {n : Nat} (h0 : 2 ≤ n) (hn : n ≤ l.length) (h1 : ws1 (l[n - 1]'(by omega)) = false) (h : ws2 (l[n - 2]'(by omega)) (l[n - 1]'(by omega)) = true) : zzTl (l.take n).reverse = 2 := by
  rw [take_rev1 l n (by omega) hn, take_rev1 l (n - 1) (by omega) (by omega)]
  exact zzTl_2 h1 h
theorem tl_one {l : List UInt8} (hn : 1 ≤ l.length) (h1 : ws1 (l[0]'(by omega)) = false) : zzTl (l.take 1).reverse = 0 := by
  rw [take_rev1 l 1 (by omega) hn]
  simp [zzTl, h1]
theorem tl_two {l : List UInt8} (hn : 2 ≤ l.length) (h1 : ws1 (l[1]'(by omega)) = false) (h : ws2 (l[0]'(by omega)) (l[1]'(by omega)) = false) : zzTl (l.take 2).reverse = 0 := by
  rw [take_rev1 l 2 (by omega) hn, take_rev1 l (2 - 1) (by omega) (by omega)]
  simp [zzTl, h1, h]
theorem tl_three {l : List UInt8} {n : Nat} (h0 : 3 ≤ n) (hn : n ≤ l.length) (h1 : ws1 (l[n - 1]'(by omega)) = false) (h : ws2 (l[n - 2]'(by omega)) (l[n - 1]'(by omega)) = false) :
    zzTl (l.take n).reverse = if sp3 (l[n - 3]'(by omega)) (l[n - 2]'(by omega)) (l[n - 1]'(by omega)) then 3 else 0 := by
  rw [take_rev1 l n (by omega) hn, take_rev1 l (n - 1) (by omega) (by omega), take_rev1 l (n - 1 - 1) (by omega) (by omega)]
  simp [zzTl, h1, h, show n - 1 - 1 = n - 2 by omega, show n - 2 - 1 = n - 3 by omega]

set_option maxRecDepth 100000 in
set_option maxHeartbeats 16000000 in
theorem p_trim (t : ByteArray) (ht : t.size ≤ 1048576) (w : World) : Calls Tryz.prog 24 #[.string t] w fun e w' => e = .returned (.string (trimB t)) ∧ Upd (fun _ => False) w w' := by
  have htI : (t.size : Int) ≤ 1048576 := by omega
  clear ht
  go_enter Tryz.func24, Tryz.ntmps24
  go_wp2_with fail
  go_loopg [3] (t.size) (fun k v3 wr => ∃ n : Nat, v3 = .int .i64 (n : Int) ∧ n = k ∧ n ≤ t.size ∧ Lib.stripR n (t.data.toList.take n) = Lib.stripR t.data.toList.length t.data.toList ∧ Upd (fun _ => False) w wr)
  case atStart => exact ⟨t.size, rfl, rfl, Nat.le_refl _, by rw [show t.size = t.data.toList.length from rfl, List.take_length], Upd.refl _ _⟩
  case round =>
  obtain ⟨n, rfl, hk, hn, hst, hu⟩ := hrel
  have hnI : (n : Int) ≤ 1048576 := by omega
  have HK := Lib.hid (And.intro hk (And.intro hn (And.intro hst hu)))
  clear hk hst hu
  by_cases h0 : n = 0
  · subst h0
    clear hn
    go_wp2_with fail
    go_ret
    exact ⟨congrArg (fun x => Ending.returned (Value.string x)) ((show ByteArray.empty = t.extract 0 0 from (ByteArray.ext (Array.toList_inj.1 (by rw [ext_take]; rfl)))).trans (trim_done HK.out.2.2.1 (by simp [Lib.stripR]))), HK.out.2.2.2⟩
  have h0I : (0 : Int) < (n : Int) := by omega
  obtain ⟨n1, hn1⟩ : ∃ n1, n1 = n - 1 := ⟨_, rfl⟩
  have hI1 : (n : Int) - 1 = (n1 : Int) := by omega
  have hb1 : n1 < t.size := by omega
  have hb1I : (n1 : Int) < (t.size : Int) := by omega
  obtain ⟨c, hc⟩ : ∃ c, t[n1]'hb1 = c := ⟨_, rfl⟩
  have hcl : t.data.toList[n1]'hb1 = c := hc
  have hc255 : (c.toNat : Int) ≤ 255 := by have := c.toNat_lt; omega
  have hcN : t.data.toList[n - 1]'(by show n - 1 < t.size; omega) = c := by simp only [← hn1]; exact hcl
  have HN := Lib.hid (And.intro h0 (And.intro hn1 hn))
  have HC : RowKit.Hid (∀ (hx : n - 1 < t.data.toList.length), t.data.toList[n - 1]'hx = c) := Lib.hid fun _ => hcN
  clear hcN
  clear hn1 hcl h0 hn
  by_cases hw1 : c = 32 ∨ (9 ≤ c.toNat ∧ c.toNat ≤ 13)
  · have HS : RowKit.Hid (Lib.stripR (n - 1) (t.data.toList.take (n - 1)) = Lib.stripR t.data.toList.length t.data.toList) := Lib.hid (by
      rw [← HK.out.2.2.1]
      refine (strip_step _ n (by have := HN.out.2.2; exact this) 1 (tl_ws (by have := HN.out.1; omega) HN.out.2.2 ?_) (by omega) (by have := HN.out.1; omega)).symm
      rw [HC.out _]
      simpa [ws1] using hw1)
    rcases hw1 with h32 | ⟨h9, h13⟩
    · have h32I : (c.toNat : Int) = 32 := by rw [h32]; rfl
      clear h32
      go_wp2_with fail
      go_roundg n1
      case measure => have := HN.out; have := HK.out.1; omega
      case rel => exact ⟨n1, by go_num, rfl, by omega, by rw [HN.out.2.1]; exact HS.out, HK.out.2.2.2⟩
    · have h9I : 9 ≤ (c.toNat : Int) := by omega
      have h13I : (c.toNat : Int) ≤ 13 := by omega
      clear h9 h13
      go_wp2_with fail
      go_roundg n1
      case measure => have := HN.out; have := HK.out.1; omega
      case rel => exact ⟨n1, by go_num, rfl, by omega, by rw [HN.out.2.1]; exact HS.out, HK.out.2.2.2⟩
  have hw1f : ws1 c = false := by
    rw [Bool.eq_false_iff]
    intro h
    exact hw1 (by simpa [ws1] using h)
  have h32I : ((c.toNat : Int) == 32) = false := ne_int (d := 32) fun e => hw1 (.inl e)
  have hcc : decide ((9 : Int) ≤ (c.toNat : Int)) = false ∨ (decide ((9 : Int) ≤ (c.toNat : Int)) = true ∧ decide ((c.toNat : Int) ≤ 13) = false) := by
    have h2 := fun h => hw1 (.inr h)
    simp only [decide_eq_false_iff_not, decide_eq_true_eq]
    omega
  have hcN : decide ((9 : Int) ≤ (c.toNat : Int)) = false → (c.toNat : Int) < 9 := by
    simp only [decide_eq_false_iff_not]
    omega
  have HW := Lib.hid hw1f
  clear hw1 hw1f
  by_cases h2 : n = 1
  · -- one byte
    have HE : RowKit.Hid (t.extract 0 n = trimB t) := Lib.hid (trim_done HK.out.2.2.1 (strip_end _ n (by subst h2; exact tl_one HN.out.2.2 (by rw [show t.data.toList[0]'(by have := HN.out.2.2; exact this) = c from HC.out _]; exact HW.out))))
    have d2 : decide ((2 : Int) ≤ (n : Int)) = false := by simp only [decide_eq_false_iff_not]; omega
    have d3 : decide ((3 : Int) ≤ (n : Int)) = false := by simp only [decide_eq_false_iff_not]; omega
    have hnt : (n : Int) ≤ (t.size : Int) := by have := HN.out.2.2; omega
    clear h2 hcN
    rcases hcc with hA | ⟨hA, hB⟩
    · go_wp2_with fail
      refine wp_region_held_drew (S := fun W => True) (by kernel_rfl) trivial (fun hHeld => ?_)
      refine wpAnyH_take (i := 0) (v := ?vs1_0) rfl (by kernel_rfl) (by kernel_rfl) (by kernel_rfl) (fun _ _ _ h => h) (Or.inl ⟨by rfl, ?hs1_0⟩) (by assumption) ?rs1_0
      case hs1_0 => (intro w hSw; (try dsimp only at hSw); go_simp; try with_reducible rfl)
      try simp only [List.getElem_toArray, List.getElem_cons_zero, Act.put, List.setIfInBounds_toArray, List.set_cons_zero, List.set_cons_succ]
      refine wpAnyH_take (i := 1) (v := ?vs1_1) rfl (by kernel_rfl) (by kernel_rfl) (by kernel_rfl) (fun _ _ _ h => h) (Or.inl ⟨by rfl, ?hs1_1⟩) (by assumption) ?rs1_1
      case hs1_1 => (intro w hSw; (try dsimp only at hSw); go_simp; try with_reducible rfl)
      try simp only [List.getElem_toArray, List.getElem_cons_zero, List.getElem_cons_succ, Act.put, List.setIfInBounds_toArray, List.set_cons_zero, List.set_cons_succ]
      refine wpAnyH_take (i := 2) (v := ?vs1_2) rfl (by kernel_rfl) (by kernel_rfl) (by kernel_rfl) (fun _ _ _ h => h) (Or.inl ⟨by rfl, ?hs1_2⟩) (by assumption) ?rs1_2
      case hs1_2 => (intro w hSw; (try dsimp only at hSw); go_simp; try with_reducible rfl)
      try simp only [List.getElem_toArray, List.getElem_cons_zero, List.getElem_cons_succ, Act.put, List.setIfInBounds_toArray, List.set_cons_zero, List.set_cons_succ]
      refine wpAnyH_take (i := 3) (v := undef) rfl (by kernel_rfl) (by kernel_rfl) (by kernel_rfl) (fun _ _ _ h => h) (Or.inr ⟨by rfl, rfl⟩) (by assumption) ?_
      try simp only [List.getElem_toArray, List.getElem_cons_zero, List.getElem_cons_succ, Act.put, List.setIfInBounds_toArray, List.set_cons_zero, List.set_cons_succ]
      refine wpAnyH_take (i := 4) (v := undef) rfl (by kernel_rfl) (by kernel_rfl) (by kernel_rfl) (fun _ _ _ h => h) (Or.inr ⟨by rfl, rfl⟩) (by assumption) ?_
      try simp only [List.getElem_toArray, List.getElem_cons_zero, List.getElem_cons_succ, Act.put, List.setIfInBounds_toArray, List.set_cons_zero, List.set_cons_succ]
      refine wpAnyH_take (i := 5) (v := undef) rfl (by kernel_rfl) (by kernel_rfl) (by kernel_rfl) (fun _ _ _ h => h) (Or.inr ⟨by rfl, rfl⟩) (by assumption) ?_
      try simp only [List.getElem_toArray, List.getElem_cons_zero, List.getElem_cons_succ, Act.put, List.setIfInBounds_toArray, List.set_cons_zero, List.set_cons_succ]
      refine wpAnyH_take (i := 6) (v := undef) rfl (by kernel_rfl) (by kernel_rfl) (by kernel_rfl) (fun _ _ _ h => h) (Or.inr ⟨by rfl, rfl⟩) (by assumption) ?_
      try simp only [List.getElem_toArray, List.getElem_cons_zero, List.getElem_cons_succ, Act.put, List.setIfInBounds_toArray, List.set_cons_zero, List.set_cons_succ]
      refine wpAnyH_take (i := 7) (v := undef) rfl (by kernel_rfl) (by kernel_rfl) (by kernel_rfl) (fun _ _ _ h => h) (Or.inr ⟨by rfl, rfl⟩) (by assumption) ?_
      try simp only [List.getElem_toArray, List.getElem_cons_zero, List.getElem_cons_succ, Act.put, List.setIfInBounds_toArray, List.set_cons_zero, List.set_cons_succ]
      refine wpAnyH_take (i := 8) (v := undef) rfl (by kernel_rfl) (by kernel_rfl) (by kernel_rfl) (fun _ _ _ h => h) (Or.inr ⟨by rfl, rfl⟩) (by assumption) ?_
      try simp only [List.getElem_toArray, List.getElem_cons_zero, List.getElem_cons_succ, Act.put, List.setIfInBounds_toArray, List.set_cons_zero, List.set_cons_succ]
      refine wpAnyH_take (i := 9) (v := undef) rfl (by kernel_rfl) (by kernel_rfl) (by kernel_rfl) (fun _ _ _ h => h) (Or.inr ⟨by rfl, rfl⟩) (by assumption) ?_
      try simp only [List.getElem_toArray, List.getElem_cons_zero, List.getElem_cons_succ, Act.put, List.setIfInBounds_toArray, List.set_cons_zero, List.set_cons_succ]
      refine wpAnyH_take (i := 10) (v := undef) rfl (by kernel_rfl) (by kernel_rfl) (by kernel_rfl) (fun _ _ _ h => h) (Or.inr ⟨by rfl, rfl⟩) (by assumption) ?_
      try simp only [List.getElem_toArray, List.getElem_cons_zero, List.getElem_cons_succ, Act.put, List.setIfInBounds_toArray, List.set_cons_zero, List.set_cons_succ]
      refine wpAnyH_take (i := 11) (v := undef) rfl (by kernel_rfl) (by kernel_rfl) (by kernel_rfl) (fun _ _ _ h => h) (Or.inr ⟨by rfl, rfl⟩) (by assumption) ?_
      try simp only [List.getElem_toArray, List.getElem_cons_zero, List.getElem_cons_succ, Act.put, List.setIfInBounds_toArray, List.set_cons_zero, List.set_cons_succ]
      refine wpAnyH_take (i := 12) (v := undef) rfl (by kernel_rfl) (by kernel_rfl) (by kernel_rfl) (fun _ _ _ h => h) (Or.inr ⟨by rfl, rfl⟩) (by assumption) ?_
      try simp only [List.getElem_toArray, List.getElem_cons_zero, List.getElem_cons_succ, Act.put, List.setIfInBounds_toArray, List.set_cons_zero, List.set_cons_succ]
      refine wpAnyH_take (i := 13) (v := ?vs1_13) rfl (by kernel_rfl) (by kernel_rfl) (by kernel_rfl) (fun _ _ _ h => h) (Or.inl ⟨by rfl, ?hs1_13⟩) (by assumption) ?rs1_13
      case hs1_13 => (intro w hSw; (try dsimp only at hSw); go_simp; try with_reducible rfl)
      try simp only [List.getElem_toArray, List.getElem_cons_zero, List.getElem_cons_succ, Act.put, List.setIfInBounds_toArray, List.set_cons_zero, List.set_cons_succ]
      refine wpAnyH_done (by kernel_rfl) ?_ _
      go_wp2_with fail
      go_ret
      exact ⟨by rw [HE.out]; rfl, HK.out.2.2.2.drew⟩
    · go_wp2_with fail
      refine wp_region_held_drew (S := fun W => True) (by kernel_rfl) trivial (fun hHeld => ?_)
      refine wpAnyH_take (i := 0) (v := ?vs2_0) rfl (by kernel_rfl) (by kernel_rfl) (by kernel_rfl) (fun _ _ _ h => h) (Or.inl ⟨by rfl, ?hs2_0⟩) (by assumption) ?rs2_0
      case hs2_0 => (intro w hSw; (try dsimp only at hSw); go_simp; try with_reducible rfl)
      try simp only [List.getElem_toArray, List.getElem_cons_zero, Act.put, List.setIfInBounds_toArray, List.set_cons_zero, List.set_cons_succ]
      refine wpAnyH_take (i := 1) (v := ?vs2_1) rfl (by kernel_rfl) (by kernel_rfl) (by kernel_rfl) (fun _ _ _ h => h) (Or.inl ⟨by rfl, ?hs2_1⟩) (by assumption) ?rs2_1
      case hs2_1 => (intro w hSw; (try dsimp only at hSw); go_simp; try with_reducible rfl)
      try simp only [List.getElem_toArray, List.getElem_cons_zero, List.getElem_cons_succ, Act.put, List.setIfInBounds_toArray, List.set_cons_zero, List.set_cons_succ]
      refine wpAnyH_take (i := 2) (v := ?vs2_2) rfl (by kernel_rfl) (by kernel_rfl) (by kernel_rfl) (fun _ _ _ h => h) (Or.inl ⟨by rfl, ?hs2_2⟩) (by assumption) ?rs2_2
      case hs2_2 => (intro w hSw; (try dsimp only at hSw); go_simp; try with_reducible rfl)
      try simp only [List.getElem_toArray, List.getElem_cons_zero, List.getElem_cons_succ, Act.put, List.setIfInBounds_toArray, List.set_cons_zero, List.set_cons_succ]
      refine wpAnyH_take (i := 3) (v := undef) rfl (by kernel_rfl) (by kernel_rfl) (by kernel_rfl) (fun _ _ _ h => h) (Or.inr ⟨by rfl, rfl⟩) (by assumption) ?_
      try simp only [List.getElem_toArray, List.getElem_cons_zero, List.getElem_cons_succ, Act.put, List.setIfInBounds_toArray, List.set_cons_zero, List.set_cons_succ]
      refine wpAnyH_take (i := 4) (v := undef) rfl (by kernel_rfl) (by kernel_rfl) (by kernel_rfl) (fun _ _ _ h => h) (Or.inr ⟨by rfl, rfl⟩) (by assumption) ?_
      try simp only [List.getElem_toArray, List.getElem_cons_zero, List.getElem_cons_succ, Act.put, List.setIfInBounds_toArray, List.set_cons_zero, List.set_cons_succ]
      refine wpAnyH_take (i := 5) (v := undef) rfl (by kernel_rfl) (by kernel_rfl) (by kernel_rfl) (fun _ _ _ h => h) (Or.inr ⟨by rfl, rfl⟩) (by assumption) ?_
      try simp only [List.getElem_toArray, List.getElem_cons_zero, List.getElem_cons_succ, Act.put, List.setIfInBounds_toArray, List.set_cons_zero, List.set_cons_succ]
      refine wpAnyH_take (i := 6) (v := undef) rfl (by kernel_rfl) (by kernel_rfl) (by kernel_rfl) (fun _ _ _ h => h) (Or.inr ⟨by rfl, rfl⟩) (by assumption) ?_
      try simp only [List.getElem_toArray, List.getElem_cons_zero, List.getElem_cons_succ, Act.put, List.setIfInBounds_toArray, List.set_cons_zero, List.set_cons_succ]
      refine wpAnyH_take (i := 7) (v := undef) rfl (by kernel_rfl) (by kernel_rfl) (by kernel_rfl) (fun _ _ _ h => h) (Or.inr ⟨by rfl, rfl⟩) (by assumption) ?_
      try simp only [List.getElem_toArray, List.getElem_cons_zero, List.getElem_cons_succ, Act.put, List.setIfInBounds_toArray, List.set_cons_zero, List.set_cons_succ]
      refine wpAnyH_take (i := 8) (v := undef) rfl (by kernel_rfl) (by kernel_rfl) (by kernel_rfl) (fun _ _ _ h => h) (Or.inr ⟨by rfl, rfl⟩) (by assumption) ?_
      try simp only [List.getElem_toArray, List.getElem_cons_zero, List.getElem_cons_succ, Act.put, List.setIfInBounds_toArray, List.set_cons_zero, List.set_cons_succ]
      refine wpAnyH_take (i := 9) (v := undef) rfl (by kernel_rfl) (by kernel_rfl) (by kernel_rfl) (fun _ _ _ h => h) (Or.inr ⟨by rfl, rfl⟩) (by assumption) ?_
      try simp only [List.getElem_toArray, List.getElem_cons_zero, List.getElem_cons_succ, Act.put, List.setIfInBounds_toArray, List.set_cons_zero, List.set_cons_succ]
      refine wpAnyH_take (i := 10) (v := undef) rfl (by kernel_rfl) (by kernel_rfl) (by kernel_rfl) (fun _ _ _ h => h) (Or.inr ⟨by rfl, rfl⟩) (by assumption) ?_
      try simp only [List.getElem_toArray, List.getElem_cons_zero, List.getElem_cons_succ, Act.put, List.setIfInBounds_toArray, List.set_cons_zero, List.set_cons_succ]
      refine wpAnyH_take (i := 11) (v := undef) rfl (by kernel_rfl) (by kernel_rfl) (by kernel_rfl) (fun _ _ _ h => h) (Or.inr ⟨by rfl, rfl⟩) (by assumption) ?_
      try simp only [List.getElem_toArray, List.getElem_cons_zero, List.getElem_cons_succ, Act.put, List.setIfInBounds_toArray, List.set_cons_zero, List.set_cons_succ]
      refine wpAnyH_take (i := 12) (v := undef) rfl (by kernel_rfl) (by kernel_rfl) (by kernel_rfl) (fun _ _ _ h => h) (Or.inr ⟨by rfl, rfl⟩) (by assumption) ?_
      try simp only [List.getElem_toArray, List.getElem_cons_zero, List.getElem_cons_succ, Act.put, List.setIfInBounds_toArray, List.set_cons_zero, List.set_cons_succ]
      refine wpAnyH_take (i := 13) (v := ?vs2_13) rfl (by kernel_rfl) (by kernel_rfl) (by kernel_rfl) (fun _ _ _ h => h) (Or.inl ⟨by rfl, ?hs2_13⟩) (by assumption) ?rs2_13
      case hs2_13 => (intro w hSw; (try dsimp only at hSw); go_simp; try with_reducible rfl)
      try simp only [List.getElem_toArray, List.getElem_cons_zero, List.getElem_cons_succ, Act.put, List.setIfInBounds_toArray, List.set_cons_zero, List.set_cons_succ]
      refine wpAnyH_done (by kernel_rfl) ?_ _
      go_wp2_with fail
      go_ret
      exact ⟨by rw [HE.out]; rfl, HK.out.2.2.2.drew⟩
  have h2I : (2 : Int) ≤ (n : Int) := by omega
  have d2 : decide ((2 : Int) ≤ (n : Int)) = true := by simp only [decide_eq_true_eq]; exact h2I
  obtain ⟨n2, hn2⟩ : ∃ n2, n2 = n - 2 := ⟨_, rfl⟩
  have hI2 : (n : Int) - 2 = (n2 : Int) := by omega
  have hb2 : n2 < t.size := by omega
  have hb2I : (n2 : Int) < (t.size : Int) := by omega
  obtain ⟨b, hb⟩ : ∃ b, t[n2]'hb2 = b := ⟨_, rfl⟩
  have hbl : t.data.toList[n2]'hb2 = b := hb
  have hb255 : (b.toNat : Int) ≤ 255 := by have := b.toNat_lt; omega
  have hbN : t.data.toList[n - 2]'(by show n - 2 < t.size; omega) = b := by simp only [← hn2]; exact hbl
  have HN2 := Lib.hid (And.intro h2 hn2)
  have HB : RowKit.Hid (∀ (hx : n - 2 < t.data.toList.length), t.data.toList[n - 2]'hx = b) := Lib.hid fun _ => hbN
  clear hbN
  clear hn2 hbl h2
  by_cases hw2 : b = 0xC2 ∧ (c = 0x85 ∨ c = 0xA0)
  · have HS : RowKit.Hid (Lib.stripR (n - 2) (t.data.toList.take (n - 2)) = Lib.stripR t.data.toList.length t.data.toList) := Lib.hid (by
      rw [← HK.out.2.2.1]
      refine (strip_step _ n HN.out.2.2 2 (tl_ws2 (by omega) HN.out.2.2 ?_ ?_) (by omega) (by omega)).symm
      · rw [HC.out _]; exact HW.out
      · rw [HC.out _, HB.out _]; simpa [ws2] using hw2)
    have hbI : (b.toNat : Int) = 194 := by rw [hw2.1]; rfl
    have hcI : (c.toNat : Int) = 133 ∨ (c.toNat : Int) = 160 := hw2.2.imp (fun e => by rw [e]; rfl) (fun e => by rw [e]; rfl)
    clear hw2
    rcases hcI with hcI | hcI
    all_goals
      rcases hcc with hA | ⟨hA, hB⟩
      · exfalso; have := hcN hA; omega
      clear hcN
      go_wp2_with fail
      go_roundg n2
      case measure => have := HN2.out; have := HK.out.1; omega
      case rel => exact ⟨n2, by go_num, rfl, by omega, by rw [HN2.out.2]; exact HS.out, HK.out.2.2.2⟩
  have hw2f : ws2 b c = false := by
    rw [Bool.eq_false_iff]
    intro h
    exact hw2 (by simpa [ws2] using h)
  have hbb : ((b.toNat : Int) == 194) = false ∨ ((b.toNat : Int) = 194 ∧ ((c.toNat : Int) == 133) = false ∧ ((c.toNat : Int) == 160) = false) := by
    by_cases e : b = 0xC2
    · exact .inr ⟨by rw [e]; rfl, ne_int (d := 0x85) fun h => hw2 ⟨e, .inl h⟩, ne_int (d := 0xA0) fun h => hw2 ⟨e, .inr h⟩⟩
    · exact .inl (ne_int (d := 0xC2) e)
  have HW2 := Lib.hid hw2f
  clear hw2 hw2f
  by_cases h3 : n = 2
  · -- two bytes
    have HE : RowKit.Hid (t.extract 0 n = trimB t) := Lib.hid (trim_done HK.out.2.2.1 (strip_end _ n (by subst h3; exact tl_two HN.out.2.2 (by rw [show t.data.toList[1]'(by have := HN.out.2.2; exact this) = c from HC.out _]; exact HW.out) (by rw [show t.data.toList[1]'(by have := HN.out.2.2; exact this) = c from HC.out _, show t.data.toList[0]'(by have := HN.out.2.2; show 0 < t.size; omega) = b from HB.out _]; exact HW2.out))))
    have d3 : decide ((3 : Int) ≤ (n : Int)) = false := by simp only [decide_eq_false_iff_not]; omega
    have hnt : (n : Int) ≤ (t.size : Int) := by have := HN.out.2.2; omega
    clear h3 hcN
    rcases hcc with hA | ⟨hA, hB⟩
    · rcases hbb with hD | ⟨hD, hD2, hD3⟩
      · go_wp2_with fail
        refine wp_region_held_drew (S := fun W => True) (by kernel_rfl) trivial (fun hHeld => ?_)
        refine wpAnyH_take (i := 0) (v := ?vs3_0) rfl (by kernel_rfl) (by kernel_rfl) (by kernel_rfl) (fun _ _ _ h => h) (Or.inl ⟨by rfl, ?hs3_0⟩) (by assumption) ?rs3_0
        case hs3_0 => (intro w hSw; (try dsimp only at hSw); go_simp; try with_reducible rfl)
        try simp only [List.getElem_toArray, List.getElem_cons_zero, Act.put, List.setIfInBounds_toArray, List.set_cons_zero, List.set_cons_succ]
        refine wpAnyH_take (i := 1) (v := ?vs3_1) rfl (by kernel_rfl) (by kernel_rfl) (by kernel_rfl) (fun _ _ _ h => h) (Or.inl ⟨by rfl, ?hs3_1⟩) (by assumption) ?rs3_1
        case hs3_1 => (intro w hSw; (try dsimp only at hSw); go_simp; try with_reducible rfl)
        try simp only [List.getElem_toArray, List.getElem_cons_zero, List.getElem_cons_succ, Act.put, List.setIfInBounds_toArray, List.set_cons_zero, List.set_cons_succ]
        refine wpAnyH_take (i := 2) (v := ?vs3_2) rfl (by kernel_rfl) (by kernel_rfl) (by kernel_rfl) (fun _ _ _ h => h) (Or.inl ⟨by rfl, ?hs3_2⟩) (by assumption) ?rs3_2
        case hs3_2 => (intro w hSw; (try dsimp only at hSw); go_simp; try with_reducible rfl)
        try simp only [List.getElem_toArray, List.getElem_cons_zero, List.getElem_cons_succ, Act.put, List.setIfInBounds_toArray, List.set_cons_zero, List.set_cons_succ]
        refine wpAnyH_take (i := 3) (v := undef) rfl (by kernel_rfl) (by kernel_rfl) (by kernel_rfl) (fun _ _ _ h => h) (Or.inr ⟨by rfl, rfl⟩) (by assumption) ?_
        try simp only [List.getElem_toArray, List.getElem_cons_zero, List.getElem_cons_succ, Act.put, List.setIfInBounds_toArray, List.set_cons_zero, List.set_cons_succ]
        refine wpAnyH_take (i := 4) (v := undef) rfl (by kernel_rfl) (by kernel_rfl) (by kernel_rfl) (fun _ _ _ h => h) (Or.inr ⟨by rfl, rfl⟩) (by assumption) ?_
        try simp only [List.getElem_toArray, List.getElem_cons_zero, List.getElem_cons_succ, Act.put, List.setIfInBounds_toArray, List.set_cons_zero, List.set_cons_succ]
        refine wpAnyH_take (i := 5) (v := undef) rfl (by kernel_rfl) (by kernel_rfl) (by kernel_rfl) (fun _ _ _ h => h) (Or.inr ⟨by rfl, rfl⟩) (by assumption) ?_
        try simp only [List.getElem_toArray, List.getElem_cons_zero, List.getElem_cons_succ, Act.put, List.setIfInBounds_toArray, List.set_cons_zero, List.set_cons_succ]
        refine wpAnyH_take (i := 6) (v := undef) rfl (by kernel_rfl) (by kernel_rfl) (by kernel_rfl) (fun _ _ _ h => h) (Or.inr ⟨by rfl, rfl⟩) (by assumption) ?_
        try simp only [List.getElem_toArray, List.getElem_cons_zero, List.getElem_cons_succ, Act.put, List.setIfInBounds_toArray, List.set_cons_zero, List.set_cons_succ]
        refine wpAnyH_take (i := 7) (v := undef) rfl (by kernel_rfl) (by kernel_rfl) (by kernel_rfl) (fun _ _ _ h => h) (Or.inr ⟨by rfl, rfl⟩) (by assumption) ?_
        try simp only [List.getElem_toArray, List.getElem_cons_zero, List.getElem_cons_succ, Act.put, List.setIfInBounds_toArray, List.set_cons_zero, List.set_cons_succ]
        refine wpAnyH_take (i := 8) (v := undef) rfl (by kernel_rfl) (by kernel_rfl) (by kernel_rfl) (fun _ _ _ h => h) (Or.inr ⟨by rfl, rfl⟩) (by assumption) ?_
        try simp only [List.getElem_toArray, List.getElem_cons_zero, List.getElem_cons_succ, Act.put, List.setIfInBounds_toArray, List.set_cons_zero, List.set_cons_succ]
        refine wpAnyH_take (i := 9) (v := undef) rfl (by kernel_rfl) (by kernel_rfl) (by kernel_rfl) (fun _ _ _ h => h) (Or.inr ⟨by rfl, rfl⟩) (by assumption) ?_
        try simp only [List.getElem_toArray, List.getElem_cons_zero, List.getElem_cons_succ, Act.put, List.setIfInBounds_toArray, List.set_cons_zero, List.set_cons_succ]
        refine wpAnyH_take (i := 10) (v := undef) rfl (by kernel_rfl) (by kernel_rfl) (by kernel_rfl) (fun _ _ _ h => h) (Or.inr ⟨by rfl, rfl⟩) (by assumption) ?_
        try simp only [List.getElem_toArray, List.getElem_cons_zero, List.getElem_cons_succ, Act.put, List.setIfInBounds_toArray, List.set_cons_zero, List.set_cons_succ]
        refine wpAnyH_take (i := 11) (v := undef) rfl (by kernel_rfl) (by kernel_rfl) (by kernel_rfl) (fun _ _ _ h => h) (Or.inr ⟨by rfl, rfl⟩) (by assumption) ?_
        try simp only [List.getElem_toArray, List.getElem_cons_zero, List.getElem_cons_succ, Act.put, List.setIfInBounds_toArray, List.set_cons_zero, List.set_cons_succ]
        refine wpAnyH_take (i := 12) (v := undef) rfl (by kernel_rfl) (by kernel_rfl) (by kernel_rfl) (fun _ _ _ h => h) (Or.inr ⟨by rfl, rfl⟩) (by assumption) ?_
        try simp only [List.getElem_toArray, List.getElem_cons_zero, List.getElem_cons_succ, Act.put, List.setIfInBounds_toArray, List.set_cons_zero, List.set_cons_succ]
        refine wpAnyH_take (i := 13) (v := ?vs3_13) rfl (by kernel_rfl) (by kernel_rfl) (by kernel_rfl) (fun _ _ _ h => h) (Or.inl ⟨by rfl, ?hs3_13⟩) (by assumption) ?rs3_13
        case hs3_13 => (intro w hSw; (try dsimp only at hSw); go_simp; try with_reducible rfl)
        try simp only [List.getElem_toArray, List.getElem_cons_zero, List.getElem_cons_succ, Act.put, List.setIfInBounds_toArray, List.set_cons_zero, List.set_cons_succ]
        refine wpAnyH_done (by kernel_rfl) ?_ _
        go_wp2_with fail
        go_ret
        exact ⟨by rw [HE.out]; rfl, HK.out.2.2.2.drew⟩
      · go_wp2_with fail
        refine wp_region_held_drew (S := fun W => True) (by kernel_rfl) trivial (fun hHeld => ?_)
        refine wpAnyH_take (i := 0) (v := ?vs4_0) rfl (by kernel_rfl) (by kernel_rfl) (by kernel_rfl) (fun _ _ _ h => h) (Or.inl ⟨by rfl, ?hs4_0⟩) (by assumption) ?rs4_0
        case hs4_0 => (intro w hSw; (try dsimp only at hSw); go_simp; try with_reducible rfl)
        try simp only [List.getElem_toArray, List.getElem_cons_zero, Act.put, List.setIfInBounds_toArray, List.set_cons_zero, List.set_cons_succ]
        refine wpAnyH_take (i := 1) (v := ?vs4_1) rfl (by kernel_rfl) (by kernel_rfl) (by kernel_rfl) (fun _ _ _ h => h) (Or.inl ⟨by rfl, ?hs4_1⟩) (by assumption) ?rs4_1
        case hs4_1 => (intro w hSw; (try dsimp only at hSw); go_simp; try with_reducible rfl)
        try simp only [List.getElem_toArray, List.getElem_cons_zero, List.getElem_cons_succ, Act.put, List.setIfInBounds_toArray, List.set_cons_zero, List.set_cons_succ]
        refine wpAnyH_take (i := 2) (v := ?vs4_2) rfl (by kernel_rfl) (by kernel_rfl) (by kernel_rfl) (fun _ _ _ h => h) (Or.inl ⟨by rfl, ?hs4_2⟩) (by assumption) ?rs4_2
        case hs4_2 => (intro w hSw; (try dsimp only at hSw); go_simp; try with_reducible rfl)
        try simp only [List.getElem_toArray, List.getElem_cons_zero, List.getElem_cons_succ, Act.put, List.setIfInBounds_toArray, List.set_cons_zero, List.set_cons_succ]
        refine wpAnyH_take (i := 3) (v := undef) rfl (by kernel_rfl) (by kernel_rfl) (by kernel_rfl) (fun _ _ _ h => h) (Or.inr ⟨by rfl, rfl⟩) (by assumption) ?_
        try simp only [List.getElem_toArray, List.getElem_cons_zero, List.getElem_cons_succ, Act.put, List.setIfInBounds_toArray, List.set_cons_zero, List.set_cons_succ]
        refine wpAnyH_take (i := 4) (v := undef) rfl (by kernel_rfl) (by kernel_rfl) (by kernel_rfl) (fun _ _ _ h => h) (Or.inr ⟨by rfl, rfl⟩) (by assumption) ?_
        try simp only [List.getElem_toArray, List.getElem_cons_zero, List.getElem_cons_succ, Act.put, List.setIfInBounds_toArray, List.set_cons_zero, List.set_cons_succ]
        refine wpAnyH_take (i := 5) (v := undef) rfl (by kernel_rfl) (by kernel_rfl) (by kernel_rfl) (fun _ _ _ h => h) (Or.inr ⟨by rfl, rfl⟩) (by assumption) ?_
        try simp only [List.getElem_toArray, List.getElem_cons_zero, List.getElem_cons_succ, Act.put, List.setIfInBounds_toArray, List.set_cons_zero, List.set_cons_succ]
        refine wpAnyH_take (i := 6) (v := undef) rfl (by kernel_rfl) (by kernel_rfl) (by kernel_rfl) (fun _ _ _ h => h) (Or.inr ⟨by rfl, rfl⟩) (by assumption) ?_
        try simp only [List.getElem_toArray, List.getElem_cons_zero, List.getElem_cons_succ, Act.put, List.setIfInBounds_toArray, List.set_cons_zero, List.set_cons_succ]
        refine wpAnyH_take (i := 7) (v := undef) rfl (by kernel_rfl) (by kernel_rfl) (by kernel_rfl) (fun _ _ _ h => h) (Or.inr ⟨by rfl, rfl⟩) (by assumption) ?_
        try simp only [List.getElem_toArray, List.getElem_cons_zero, List.getElem_cons_succ, Act.put, List.setIfInBounds_toArray, List.set_cons_zero, List.set_cons_succ]
        refine wpAnyH_take (i := 8) (v := undef) rfl (by kernel_rfl) (by kernel_rfl) (by kernel_rfl) (fun _ _ _ h => h) (Or.inr ⟨by rfl, rfl⟩) (by assumption) ?_
        try simp only [List.getElem_toArray, List.getElem_cons_zero, List.getElem_cons_succ, Act.put, List.setIfInBounds_toArray, List.set_cons_zero, List.set_cons_succ]
        refine wpAnyH_take (i := 9) (v := undef) rfl (by kernel_rfl) (by kernel_rfl) (by kernel_rfl) (fun _ _ _ h => h) (Or.inr ⟨by rfl, rfl⟩) (by assumption) ?_
        try simp only [List.getElem_toArray, List.getElem_cons_zero, List.getElem_cons_succ, Act.put, List.setIfInBounds_toArray, List.set_cons_zero, List.set_cons_succ]
        refine wpAnyH_take (i := 10) (v := undef) rfl (by kernel_rfl) (by kernel_rfl) (by kernel_rfl) (fun _ _ _ h => h) (Or.inr ⟨by rfl, rfl⟩) (by assumption) ?_
        try simp only [List.getElem_toArray, List.getElem_cons_zero, List.getElem_cons_succ, Act.put, List.setIfInBounds_toArray, List.set_cons_zero, List.set_cons_succ]
        refine wpAnyH_take (i := 11) (v := undef) rfl (by kernel_rfl) (by kernel_rfl) (by kernel_rfl) (fun _ _ _ h => h) (Or.inr ⟨by rfl, rfl⟩) (by assumption) ?_
        try simp only [List.getElem_toArray, List.getElem_cons_zero, List.getElem_cons_succ, Act.put, List.setIfInBounds_toArray, List.set_cons_zero, List.set_cons_succ]
        refine wpAnyH_take (i := 12) (v := undef) rfl (by kernel_rfl) (by kernel_rfl) (by kernel_rfl) (fun _ _ _ h => h) (Or.inr ⟨by rfl, rfl⟩) (by assumption) ?_
        try simp only [List.getElem_toArray, List.getElem_cons_zero, List.getElem_cons_succ, Act.put, List.setIfInBounds_toArray, List.set_cons_zero, List.set_cons_succ]
        refine wpAnyH_take (i := 13) (v := ?vs4_13) rfl (by kernel_rfl) (by kernel_rfl) (by kernel_rfl) (fun _ _ _ h => h) (Or.inl ⟨by rfl, ?hs4_13⟩) (by assumption) ?rs4_13
        case hs4_13 => (intro w hSw; (try dsimp only at hSw); go_simp; try with_reducible rfl)
        try simp only [List.getElem_toArray, List.getElem_cons_zero, List.getElem_cons_succ, Act.put, List.setIfInBounds_toArray, List.set_cons_zero, List.set_cons_succ]
        refine wpAnyH_done (by kernel_rfl) ?_ _
        go_wp2_with fail
        go_ret
        exact ⟨by rw [HE.out]; rfl, HK.out.2.2.2.drew⟩
    · rcases hbb with hD | ⟨hD, hD2, hD3⟩
      · go_wp2_with fail
        refine wp_region_held_drew (S := fun W => True) (by kernel_rfl) trivial (fun hHeld => ?_)
        refine wpAnyH_take (i := 0) (v := ?vs5_0) rfl (by kernel_rfl) (by kernel_rfl) (by kernel_rfl) (fun _ _ _ h => h) (Or.inl ⟨by rfl, ?hs5_0⟩) (by assumption) ?rs5_0
        case hs5_0 => (intro w hSw; (try dsimp only at hSw); go_simp; try with_reducible rfl)
        try simp only [List.getElem_toArray, List.getElem_cons_zero, Act.put, List.setIfInBounds_toArray, List.set_cons_zero, List.set_cons_succ]
        refine wpAnyH_take (i := 1) (v := ?vs5_1) rfl (by kernel_rfl) (by kernel_rfl) (by kernel_rfl) (fun _ _ _ h => h) (Or.inl ⟨by rfl, ?hs5_1⟩) (by assumption) ?rs5_1
        case hs5_1 => (intro w hSw; (try dsimp only at hSw); go_simp; try with_reducible rfl)
        try simp only [List.getElem_toArray, List.getElem_cons_zero, List.getElem_cons_succ, Act.put, List.setIfInBounds_toArray, List.set_cons_zero, List.set_cons_succ]
        refine wpAnyH_take (i := 2) (v := ?vs5_2) rfl (by kernel_rfl) (by kernel_rfl) (by kernel_rfl) (fun _ _ _ h => h) (Or.inl ⟨by rfl, ?hs5_2⟩) (by assumption) ?rs5_2
        case hs5_2 => (intro w hSw; (try dsimp only at hSw); go_simp; try with_reducible rfl)
        try simp only [List.getElem_toArray, List.getElem_cons_zero, List.getElem_cons_succ, Act.put, List.setIfInBounds_toArray, List.set_cons_zero, List.set_cons_succ]
        refine wpAnyH_take (i := 3) (v := undef) rfl (by kernel_rfl) (by kernel_rfl) (by kernel_rfl) (fun _ _ _ h => h) (Or.inr ⟨by rfl, rfl⟩) (by assumption) ?_
        try simp only [List.getElem_toArray, List.getElem_cons_zero, List.getElem_cons_succ, Act.put, List.setIfInBounds_toArray, List.set_cons_zero, List.set_cons_succ]
        refine wpAnyH_take (i := 4) (v := undef) rfl (by kernel_rfl) (by kernel_rfl) (by kernel_rfl) (fun _ _ _ h => h) (Or.inr ⟨by rfl, rfl⟩) (by assumption) ?_
        try simp only [List.getElem_toArray, List.getElem_cons_zero, List.getElem_cons_succ, Act.put, List.setIfInBounds_toArray, List.set_cons_zero, List.set_cons_succ]
        refine wpAnyH_take (i := 5) (v := undef) rfl (by kernel_rfl) (by kernel_rfl) (by kernel_rfl) (fun _ _ _ h => h) (Or.inr ⟨by rfl, rfl⟩) (by assumption) ?_
        try simp only [List.getElem_toArray, List.getElem_cons_zero, List.getElem_cons_succ, Act.put, List.setIfInBounds_toArray, List.set_cons_zero, List.set_cons_succ]
        refine wpAnyH_take (i := 6) (v := undef) rfl (by kernel_rfl) (by kernel_rfl) (by kernel_rfl) (fun _ _ _ h => h) (Or.inr ⟨by rfl, rfl⟩) (by assumption) ?_
        try simp only [List.getElem_toArray, List.getElem_cons_zero, List.getElem_cons_succ, Act.put, List.setIfInBounds_toArray, List.set_cons_zero, List.set_cons_succ]
        refine wpAnyH_take (i := 7) (v := undef) rfl (by kernel_rfl) (by kernel_rfl) (by kernel_rfl) (fun _ _ _ h => h) (Or.inr ⟨by rfl, rfl⟩) (by assumption) ?_
        try simp only [List.getElem_toArray, List.getElem_cons_zero, List.getElem_cons_succ, Act.put, List.setIfInBounds_toArray, List.set_cons_zero, List.set_cons_succ]
        refine wpAnyH_take (i := 8) (v := undef) rfl (by kernel_rfl) (by kernel_rfl) (by kernel_rfl) (fun _ _ _ h => h) (Or.inr ⟨by rfl, rfl⟩) (by assumption) ?_
        try simp only [List.getElem_toArray, List.getElem_cons_zero, List.getElem_cons_succ, Act.put, List.setIfInBounds_toArray, List.set_cons_zero, List.set_cons_succ]
        refine wpAnyH_take (i := 9) (v := undef) rfl (by kernel_rfl) (by kernel_rfl) (by kernel_rfl) (fun _ _ _ h => h) (Or.inr ⟨by rfl, rfl⟩) (by assumption) ?_
        try simp only [List.getElem_toArray, List.getElem_cons_zero, List.getElem_cons_succ, Act.put, List.setIfInBounds_toArray, List.set_cons_zero, List.set_cons_succ]
        refine wpAnyH_take (i := 10) (v := undef) rfl (by kernel_rfl) (by kernel_rfl) (by kernel_rfl) (fun _ _ _ h => h) (Or.inr ⟨by rfl, rfl⟩) (by assumption) ?_
        try simp only [List.getElem_toArray, List.getElem_cons_zero, List.getElem_cons_succ, Act.put, List.setIfInBounds_toArray, List.set_cons_zero, List.set_cons_succ]
        refine wpAnyH_take (i := 11) (v := undef) rfl (by kernel_rfl) (by kernel_rfl) (by kernel_rfl) (fun _ _ _ h => h) (Or.inr ⟨by rfl, rfl⟩) (by assumption) ?_
        try simp only [List.getElem_toArray, List.getElem_cons_zero, List.getElem_cons_succ, Act.put, List.setIfInBounds_toArray, List.set_cons_zero, List.set_cons_succ]
        refine wpAnyH_take (i := 12) (v := undef) rfl (by kernel_rfl) (by kernel_rfl) (by kernel_rfl) (fun _ _ _ h => h) (Or.inr ⟨by rfl, rfl⟩) (by assumption) ?_
        try simp only [List.getElem_toArray, List.getElem_cons_zero, List.getElem_cons_succ, Act.put, List.setIfInBounds_toArray, List.set_cons_zero, List.set_cons_succ]
        refine wpAnyH_take (i := 13) (v := ?vs5_13) rfl (by kernel_rfl) (by kernel_rfl) (by kernel_rfl) (fun _ _ _ h => h) (Or.inl ⟨by rfl, ?hs5_13⟩) (by assumption) ?rs5_13
        case hs5_13 => (intro w hSw; (try dsimp only at hSw); go_simp; try with_reducible rfl)
        try simp only [List.getElem_toArray, List.getElem_cons_zero, List.getElem_cons_succ, Act.put, List.setIfInBounds_toArray, List.set_cons_zero, List.set_cons_succ]
        refine wpAnyH_done (by kernel_rfl) ?_ _
        go_wp2_with fail
        go_ret
        exact ⟨by rw [HE.out]; rfl, HK.out.2.2.2.drew⟩
      · go_wp2_with fail
        refine wp_region_held_drew (S := fun W => True) (by kernel_rfl) trivial (fun hHeld => ?_)
        refine wpAnyH_take (i := 0) (v := ?vs6_0) rfl (by kernel_rfl) (by kernel_rfl) (by kernel_rfl) (fun _ _ _ h => h) (Or.inl ⟨by rfl, ?hs6_0⟩) (by assumption) ?rs6_0
        case hs6_0 => (intro w hSw; (try dsimp only at hSw); go_simp; try with_reducible rfl)
        try simp only [List.getElem_toArray, List.getElem_cons_zero, Act.put, List.setIfInBounds_toArray, List.set_cons_zero, List.set_cons_succ]
        refine wpAnyH_take (i := 1) (v := ?vs6_1) rfl (by kernel_rfl) (by kernel_rfl) (by kernel_rfl) (fun _ _ _ h => h) (Or.inl ⟨by rfl, ?hs6_1⟩) (by assumption) ?rs6_1
        case hs6_1 => (intro w hSw; (try dsimp only at hSw); go_simp; try with_reducible rfl)
        try simp only [List.getElem_toArray, List.getElem_cons_zero, List.getElem_cons_succ, Act.put, List.setIfInBounds_toArray, List.set_cons_zero, List.set_cons_succ]
        refine wpAnyH_take (i := 2) (v := ?vs6_2) rfl (by kernel_rfl) (by kernel_rfl) (by kernel_rfl) (fun _ _ _ h => h) (Or.inl ⟨by rfl, ?hs6_2⟩) (by assumption) ?rs6_2
        case hs6_2 => (intro w hSw; (try dsimp only at hSw); go_simp; try with_reducible rfl)
        try simp only [List.getElem_toArray, List.getElem_cons_zero, List.getElem_cons_succ, Act.put, List.setIfInBounds_toArray, List.set_cons_zero, List.set_cons_succ]
        refine wpAnyH_take (i := 3) (v := undef) rfl (by kernel_rfl) (by kernel_rfl) (by kernel_rfl) (fun _ _ _ h => h) (Or.inr ⟨by rfl, rfl⟩) (by assumption) ?_
        try simp only [List.getElem_toArray, List.getElem_cons_zero, List.getElem_cons_succ, Act.put, List.setIfInBounds_toArray, List.set_cons_zero, List.set_cons_succ]
        refine wpAnyH_take (i := 4) (v := undef) rfl (by kernel_rfl) (by kernel_rfl) (by kernel_rfl) (fun _ _ _ h => h) (Or.inr ⟨by rfl, rfl⟩) (by assumption) ?_
        try simp only [List.getElem_toArray, List.getElem_cons_zero, List.getElem_cons_succ, Act.put, List.setIfInBounds_toArray, List.set_cons_zero, List.set_cons_succ]
        refine wpAnyH_take (i := 5) (v := undef) rfl (by kernel_rfl) (by kernel_rfl) (by kernel_rfl) (fun _ _ _ h => h) (Or.inr ⟨by rfl, rfl⟩) (by assumption) ?_
        try simp only [List.getElem_toArray, List.getElem_cons_zero, List.getElem_cons_succ, Act.put, List.setIfInBounds_toArray, List.set_cons_zero, List.set_cons_succ]
        refine wpAnyH_take (i := 6) (v := undef) rfl (by kernel_rfl) (by kernel_rfl) (by kernel_rfl) (fun _ _ _ h => h) (Or.inr ⟨by rfl, rfl⟩) (by assumption) ?_
        try simp only [List.getElem_toArray, List.getElem_cons_zero, List.getElem_cons_succ, Act.put, List.setIfInBounds_toArray, List.set_cons_zero, List.set_cons_succ]
        refine wpAnyH_take (i := 7) (v := undef) rfl (by kernel_rfl) (by kernel_rfl) (by kernel_rfl) (fun _ _ _ h => h) (Or.inr ⟨by rfl, rfl⟩) (by assumption) ?_
        try simp only [List.getElem_toArray, List.getElem_cons_zero, List.getElem_cons_succ, Act.put, List.setIfInBounds_toArray, List.set_cons_zero, List.set_cons_succ]
        refine wpAnyH_take (i := 8) (v := undef) rfl (by kernel_rfl) (by kernel_rfl) (by kernel_rfl) (fun _ _ _ h => h) (Or.inr ⟨by rfl, rfl⟩) (by assumption) ?_
        try simp only [List.getElem_toArray, List.getElem_cons_zero, List.getElem_cons_succ, Act.put, List.setIfInBounds_toArray, List.set_cons_zero, List.set_cons_succ]
        refine wpAnyH_take (i := 9) (v := undef) rfl (by kernel_rfl) (by kernel_rfl) (by kernel_rfl) (fun _ _ _ h => h) (Or.inr ⟨by rfl, rfl⟩) (by assumption) ?_
        try simp only [List.getElem_toArray, List.getElem_cons_zero, List.getElem_cons_succ, Act.put, List.setIfInBounds_toArray, List.set_cons_zero, List.set_cons_succ]
        refine wpAnyH_take (i := 10) (v := undef) rfl (by kernel_rfl) (by kernel_rfl) (by kernel_rfl) (fun _ _ _ h => h) (Or.inr ⟨by rfl, rfl⟩) (by assumption) ?_
        try simp only [List.getElem_toArray, List.getElem_cons_zero, List.getElem_cons_succ, Act.put, List.setIfInBounds_toArray, List.set_cons_zero, List.set_cons_succ]
        refine wpAnyH_take (i := 11) (v := undef) rfl (by kernel_rfl) (by kernel_rfl) (by kernel_rfl) (fun _ _ _ h => h) (Or.inr ⟨by rfl, rfl⟩) (by assumption) ?_
        try simp only [List.getElem_toArray, List.getElem_cons_zero, List.getElem_cons_succ, Act.put, List.setIfInBounds_toArray, List.set_cons_zero, List.set_cons_succ]
        refine wpAnyH_take (i := 12) (v := undef) rfl (by kernel_rfl) (by kernel_rfl) (by kernel_rfl) (fun _ _ _ h => h) (Or.inr ⟨by rfl, rfl⟩) (by assumption) ?_
        try simp only [List.getElem_toArray, List.getElem_cons_zero, List.getElem_cons_succ, Act.put, List.setIfInBounds_toArray, List.set_cons_zero, List.set_cons_succ]
        refine wpAnyH_take (i := 13) (v := ?vs6_13) rfl (by kernel_rfl) (by kernel_rfl) (by kernel_rfl) (fun _ _ _ h => h) (Or.inl ⟨by rfl, ?hs6_13⟩) (by assumption) ?rs6_13
        case hs6_13 => (intro w hSw; (try dsimp only at hSw); go_simp; try with_reducible rfl)
        try simp only [List.getElem_toArray, List.getElem_cons_zero, List.getElem_cons_succ, Act.put, List.setIfInBounds_toArray, List.set_cons_zero, List.set_cons_succ]
        refine wpAnyH_done (by kernel_rfl) ?_ _
        go_wp2_with fail
        go_ret
        exact ⟨by rw [HE.out]; rfl, HK.out.2.2.2.drew⟩
  have h3I : (3 : Int) ≤ (n : Int) := by have := HN2.out.1; omega
  have d3 : decide ((3 : Int) ≤ (n : Int)) = true := by simp only [decide_eq_true_eq]; exact h3I
  have hnt : (n : Int) ≤ (t.size : Int) := by have := HN.out.2.2; omega
  obtain ⟨n3, hn3⟩ : ∃ n3, n3 = n - 3 := ⟨_, rfl⟩
  have hI3 : (n : Int) - 3 = (n3 : Int) := by omega
  have hb3 : n3 < t.size := by omega
  have hb3I : (n3 : Int) < (t.size : Int) := by omega
  obtain ⟨a, ha⟩ : ∃ a, t[n3]'hb3 = a := ⟨_, rfl⟩
  have hal : t.data.toList[n3]'hb3 = a := ha
  have ha255 : (a.toNat : Int) ≤ 255 := by have := a.toNat_lt; omega
  have haN : t.data.toList[n - 3]'(by show n - 3 < t.size; omega) = a := by simp only [← hn3]; exact hal
  have htl : zzTl (t.data.toList.take n).reverse = if sp3 a b c then 3 else 0 := by
    rw [tl_three (by omega) HN.out.2.2 (by rw [HC.out _]; exact HW.out) (by rw [HC.out _, HB.out _]; exact HW2.out), HC.out _, HB.out _, haN]
  have hsp := fun W => fc_space3 a b c W
  have hwr3 : IntKind.i64.wrap (n3 : Int) = (n3 : Int) := by rw [IntKind.wrap_i64]; omega
  have hwr2 : IntKind.i64.wrap (n2 : Int) = (n2 : Int) := by rw [IntKind.wrap_i64]; omega
  have HN3 := Lib.hid hn3
  clear hal haN hn3
  cases hs : sp3 a b c
  · rw [hs] at hsp htl
    have HE : RowKit.Hid (t.extract 0 n = trimB t) := Lib.hid (trim_done HK.out.2.2.1 (strip_end _ n (by rw [htl]; rfl)))
    have HSp := Lib.hid hsp
    clear hsp htl hs h3 hcN
    rcases hcc with hA | ⟨hA, hB⟩
    · rcases hbb with hD | ⟨hD, hD2, hD3⟩
      · go_wp2_with fail
        refine wp_region_held_drew (S := fun W => True) (by kernel_rfl) trivial (fun hHeld => ?_)
        refine wpAnyH_take (i := 0) (v := ?vs7_0) rfl (by kernel_rfl) (by kernel_rfl) (by kernel_rfl) (fun _ _ _ h => h) (Or.inl ⟨by rfl, ?hs7_0⟩) (by assumption) ?rs7_0
        case hs7_0 => (intro w hSw; (try dsimp only at hSw); go_simp; try with_reducible rfl)
        try simp only [List.getElem_toArray, List.getElem_cons_zero, Act.put, List.setIfInBounds_toArray, List.set_cons_zero, List.set_cons_succ]
        refine wpAnyH_take (i := 1) (v := ?vs7_1) rfl (by kernel_rfl) (by kernel_rfl) (by kernel_rfl) (fun _ _ _ h => h) (Or.inl ⟨by rfl, ?hs7_1⟩) (by assumption) ?rs7_1
        case hs7_1 => (intro w hSw; (try dsimp only at hSw); go_simp; try with_reducible rfl)
        try simp only [List.getElem_toArray, List.getElem_cons_zero, List.getElem_cons_succ, Act.put, List.setIfInBounds_toArray, List.set_cons_zero, List.set_cons_succ]
        refine wpAnyH_take (i := 2) (v := ?vs7_2) rfl (by kernel_rfl) (by kernel_rfl) (by kernel_rfl) (fun _ _ _ h => h) (Or.inl ⟨by rfl, ?hs7_2⟩) (by assumption) ?rs7_2
        case hs7_2 => (intro w hSw; (try dsimp only at hSw); go_simp; try with_reducible rfl)
        try simp only [List.getElem_toArray, List.getElem_cons_zero, List.getElem_cons_succ, Act.put, List.setIfInBounds_toArray, List.set_cons_zero, List.set_cons_succ]
        refine wpAnyH_take (i := 3) (v := ?vs7_3) rfl (by kernel_rfl) (by kernel_rfl) (by kernel_rfl) (fun _ _ _ h => h) (Or.inl ⟨by rfl, ?hs7_3⟩) (by assumption) ?rs7_3
        case hs7_3 => (intro w hSw; (try dsimp only at hSw); go_simp; try with_reducible rfl)
        try simp only [List.getElem_toArray, List.getElem_cons_zero, List.getElem_cons_succ, Act.put, List.setIfInBounds_toArray, List.set_cons_zero, List.set_cons_succ]
        refine wpAnyH_take (i := 4) (v := ?vs7_4) rfl (by kernel_rfl) (by kernel_rfl) (by kernel_rfl) (fun _ _ _ h => h) (Or.inl ⟨by rfl, ?hs7_4⟩) (by assumption) ?rs7_4
        case hs7_4 => (intro w hSw; (try dsimp only at hSw); go_simp; try with_reducible rfl)
        try simp only [List.getElem_toArray, List.getElem_cons_zero, List.getElem_cons_succ, Act.put, List.setIfInBounds_toArray, List.set_cons_zero, List.set_cons_succ]
        refine wpAnyH_take (i := 5) (v := ?vs7_5) rfl (by kernel_rfl) (by kernel_rfl) (by kernel_rfl) (fun _ _ _ h => h) (Or.inl ⟨by rfl, ?hs7_5⟩) (by assumption) ?rs7_5
        case hs7_5 => (intro w hSw; (try dsimp only at hSw); go_simp; try with_reducible rfl)
        try simp only [List.getElem_toArray, List.getElem_cons_zero, List.getElem_cons_succ, Act.put, List.setIfInBounds_toArray, List.set_cons_zero, List.set_cons_succ]
        refine wpAnyH_take (i := 6) (v := ?vs7_6) rfl (by kernel_rfl) (by kernel_rfl) (by kernel_rfl) (fun _ _ _ h => h) (Or.inl ⟨by rfl, ?hs7_6⟩) (by assumption) ?rs7_6
        case hs7_6 => (intro w hSw; (try dsimp only at hSw); go_simp; try with_reducible rfl)
        try simp only [List.getElem_toArray, List.getElem_cons_zero, List.getElem_cons_succ, Act.put, List.setIfInBounds_toArray, List.set_cons_zero, List.set_cons_succ]
        refine wpAnyH_take (i := 7) (v := ?vs7_7) rfl (by kernel_rfl) (by kernel_rfl) (by kernel_rfl) (fun _ _ _ h => h) (Or.inl ⟨by rfl, ?hs7_7⟩) (by assumption) ?rs7_7
        case hs7_7 => (intro w hSw; (try dsimp only at hSw); go_simp; try with_reducible rfl)
        try simp only [List.getElem_toArray, List.getElem_cons_zero, List.getElem_cons_succ, Act.put, List.setIfInBounds_toArray, List.set_cons_zero, List.set_cons_succ]
        refine wpAnyH_take (i := 8) (v := ?vs7_8) rfl (by kernel_rfl) (by kernel_rfl) (by kernel_rfl) (fun _ _ _ h => h) (Or.inl ⟨by rfl, ?hs7_8⟩) (by assumption) ?rs7_8
        case hs7_8 => (intro w hSw; (try dsimp only at hSw); go_simp; try with_reducible rfl)
        try simp only [List.getElem_toArray, List.getElem_cons_zero, List.getElem_cons_succ, Act.put, List.setIfInBounds_toArray, List.set_cons_zero, List.set_cons_succ]
        refine wpAnyH_take (i := 9) (v := ?vs7_9) rfl (by kernel_rfl) (by kernel_rfl) (by kernel_rfl) (fun _ _ _ h => h) (Or.inl ⟨by rfl, ?hs7_9⟩) (by assumption) ?rs7_9
        case hs7_9 => (intro w hSw; (try dsimp only at hSw); go_simp; try with_reducible rfl)
        try simp only [List.getElem_toArray, List.getElem_cons_zero, List.getElem_cons_succ, Act.put, List.setIfInBounds_toArray, List.set_cons_zero, List.set_cons_succ]
        refine wpAnyH_take (i := 10) (v := ?vs7_10) rfl (by kernel_rfl) (by kernel_rfl) (by kernel_rfl) (fun _ _ _ h => h) (Or.inl ⟨by rfl, ?hs7_10⟩) (by assumption) ?rs7_10
        case hs7_10 => (intro w hSw; (try dsimp only at hSw); go_simp; try with_reducible rfl)
        try simp only [List.getElem_toArray, List.getElem_cons_zero, List.getElem_cons_succ, Act.put, List.setIfInBounds_toArray, List.set_cons_zero, List.set_cons_succ]
        refine wpAnyH_take (i := 11) (v := ?vs7_11) rfl (by kernel_rfl) (by kernel_rfl) (by kernel_rfl) (fun _ _ _ h => h) (Or.inl ⟨by rfl, ?hs7_11⟩) (by assumption) ?rs7_11
        case hs7_11 => (intro w hSw; (try dsimp only at hSw); go_simp; try with_reducible rfl)
        try simp only [List.getElem_toArray, List.getElem_cons_zero, List.getElem_cons_succ, Act.put, List.setIfInBounds_toArray, List.set_cons_zero, List.set_cons_succ]
        refine wpAnyH_ready (rs := [12]) (by kernel_rfl) (by simp) ?_
        refine AllReadyH.cons rfl (fun K hK => ?_) AllReadyH.nil
        go_simp
        go_wp2_with (go_at_call 54; refine (HSp.out _).mono ?_; rintro e w5 ⟨rfl, rfl⟩)
        refine hK.out _ _ trivial (fun hS => ?_)
        clear hK K
        try simp only [List.getElem_toArray, List.getElem_cons_zero, List.getElem_cons_succ, Act.put, List.setIfInBounds_toArray, List.set_cons_zero, List.set_cons_succ]
        refine wpAnyH_take (i := 13) (v := ?vs7_13) rfl (by kernel_rfl) (by kernel_rfl) (by kernel_rfl) (fun _ _ _ h => h) (Or.inl ⟨by rfl, ?hs7_13⟩) (by assumption) ?rs7_13
        case hs7_13 => (intro w hSw; (try dsimp only at hSw); go_simp; try with_reducible rfl)
        try simp only [List.getElem_toArray, List.getElem_cons_zero, List.getElem_cons_succ, Act.put, List.setIfInBounds_toArray, List.set_cons_zero, List.set_cons_succ]
        refine wpAnyH_done (by kernel_rfl) ?_ _
        go_wp2_with fail
        go_ret
        exact ⟨by rw [HE.out]; rfl, HK.out.2.2.2.drew⟩
      · have hsp2 := HSp.out
        simp only [hD] at hsp2
        have HSp := Lib.hid hsp2
        clear hsp2
        go_wp2_with fail
        refine wp_region_held_drew (S := fun W => True) (by kernel_rfl) trivial (fun hHeld => ?_)
        refine wpAnyH_take (i := 0) (v := ?vs8_0) rfl (by kernel_rfl) (by kernel_rfl) (by kernel_rfl) (fun _ _ _ h => h) (Or.inl ⟨by rfl, ?hs8_0⟩) (by assumption) ?rs8_0
        case hs8_0 => (intro w hSw; (try dsimp only at hSw); go_simp; try with_reducible rfl)
        try simp only [List.getElem_toArray, List.getElem_cons_zero, Act.put, List.setIfInBounds_toArray, List.set_cons_zero, List.set_cons_succ]
        refine wpAnyH_take (i := 1) (v := ?vs8_1) rfl (by kernel_rfl) (by kernel_rfl) (by kernel_rfl) (fun _ _ _ h => h) (Or.inl ⟨by rfl, ?hs8_1⟩) (by assumption) ?rs8_1
        case hs8_1 => (intro w hSw; (try dsimp only at hSw); go_simp; try with_reducible rfl)
        try simp only [List.getElem_toArray, List.getElem_cons_zero, List.getElem_cons_succ, Act.put, List.setIfInBounds_toArray, List.set_cons_zero, List.set_cons_succ]
        refine wpAnyH_take (i := 2) (v := ?vs8_2) rfl (by kernel_rfl) (by kernel_rfl) (by kernel_rfl) (fun _ _ _ h => h) (Or.inl ⟨by rfl, ?hs8_2⟩) (by assumption) ?rs8_2
        case hs8_2 => (intro w hSw; (try dsimp only at hSw); go_simp; try with_reducible rfl)
        try simp only [List.getElem_toArray, List.getElem_cons_zero, List.getElem_cons_succ, Act.put, List.setIfInBounds_toArray, List.set_cons_zero, List.set_cons_succ]
        refine wpAnyH_take (i := 3) (v := ?vs8_3) rfl (by kernel_rfl) (by kernel_rfl) (by kernel_rfl) (fun _ _ _ h => h) (Or.inl ⟨by rfl, ?hs8_3⟩) (by assumption) ?rs8_3
        case hs8_3 => (intro w hSw; (try dsimp only at hSw); go_simp; try with_reducible rfl)
        try simp only [List.getElem_toArray, List.getElem_cons_zero, List.getElem_cons_succ, Act.put, List.setIfInBounds_toArray, List.set_cons_zero, List.set_cons_succ]
        refine wpAnyH_take (i := 4) (v := ?vs8_4) rfl (by kernel_rfl) (by kernel_rfl) (by kernel_rfl) (fun _ _ _ h => h) (Or.inl ⟨by rfl, ?hs8_4⟩) (by assumption) ?rs8_4
        case hs8_4 => (intro w hSw; (try dsimp only at hSw); go_simp; try with_reducible rfl)
        try simp only [List.getElem_toArray, List.getElem_cons_zero, List.getElem_cons_succ, Act.put, List.setIfInBounds_toArray, List.set_cons_zero, List.set_cons_succ]
        refine wpAnyH_take (i := 5) (v := ?vs8_5) rfl (by kernel_rfl) (by kernel_rfl) (by kernel_rfl) (fun _ _ _ h => h) (Or.inl ⟨by rfl, ?hs8_5⟩) (by assumption) ?rs8_5
        case hs8_5 => (intro w hSw; (try dsimp only at hSw); go_simp; try with_reducible rfl)
        try simp only [List.getElem_toArray, List.getElem_cons_zero, List.getElem_cons_succ, Act.put, List.setIfInBounds_toArray, List.set_cons_zero, List.set_cons_succ]
        refine wpAnyH_take (i := 6) (v := ?vs8_6) rfl (by kernel_rfl) (by kernel_rfl) (by kernel_rfl) (fun _ _ _ h => h) (Or.inl ⟨by rfl, ?hs8_6⟩) (by assumption) ?rs8_6
        case hs8_6 => (intro w hSw; (try dsimp only at hSw); go_simp; try with_reducible rfl)
        try simp only [List.getElem_toArray, List.getElem_cons_zero, List.getElem_cons_succ, Act.put, List.setIfInBounds_toArray, List.set_cons_zero, List.set_cons_succ]
        refine wpAnyH_take (i := 7) (v := ?vs8_7) rfl (by kernel_rfl) (by kernel_rfl) (by kernel_rfl) (fun _ _ _ h => h) (Or.inl ⟨by rfl, ?hs8_7⟩) (by assumption) ?rs8_7
        case hs8_7 => (intro w hSw; (try dsimp only at hSw); go_simp; try with_reducible rfl)
        try simp only [List.getElem_toArray, List.getElem_cons_zero, List.getElem_cons_succ, Act.put, List.setIfInBounds_toArray, List.set_cons_zero, List.set_cons_succ]
        refine wpAnyH_take (i := 8) (v := ?vs8_8) rfl (by kernel_rfl) (by kernel_rfl) (by kernel_rfl) (fun _ _ _ h => h) (Or.inl ⟨by rfl, ?hs8_8⟩) (by assumption) ?rs8_8
        case hs8_8 => (intro w hSw; (try dsimp only at hSw); go_simp; try with_reducible rfl)
        try simp only [List.getElem_toArray, List.getElem_cons_zero, List.getElem_cons_succ, Act.put, List.setIfInBounds_toArray, List.set_cons_zero, List.set_cons_succ]
        refine wpAnyH_take (i := 9) (v := ?vs8_9) rfl (by kernel_rfl) (by kernel_rfl) (by kernel_rfl) (fun _ _ _ h => h) (Or.inl ⟨by rfl, ?hs8_9⟩) (by assumption) ?rs8_9
        case hs8_9 => (intro w hSw; (try dsimp only at hSw); go_simp; try with_reducible rfl)
        try simp only [List.getElem_toArray, List.getElem_cons_zero, List.getElem_cons_succ, Act.put, List.setIfInBounds_toArray, List.set_cons_zero, List.set_cons_succ]
        refine wpAnyH_take (i := 10) (v := ?vs8_10) rfl (by kernel_rfl) (by kernel_rfl) (by kernel_rfl) (fun _ _ _ h => h) (Or.inl ⟨by rfl, ?hs8_10⟩) (by assumption) ?rs8_10
        case hs8_10 => (intro w hSw; (try dsimp only at hSw); go_simp; try with_reducible rfl)
        try simp only [List.getElem_toArray, List.getElem_cons_zero, List.getElem_cons_succ, Act.put, List.setIfInBounds_toArray, List.set_cons_zero, List.set_cons_succ]
        refine wpAnyH_take (i := 11) (v := ?vs8_11) rfl (by kernel_rfl) (by kernel_rfl) (by kernel_rfl) (fun _ _ _ h => h) (Or.inl ⟨by rfl, ?hs8_11⟩) (by assumption) ?rs8_11
        case hs8_11 => (intro w hSw; (try dsimp only at hSw); go_simp; try with_reducible rfl)
        try simp only [List.getElem_toArray, List.getElem_cons_zero, List.getElem_cons_succ, Act.put, List.setIfInBounds_toArray, List.set_cons_zero, List.set_cons_succ]
        refine wpAnyH_ready (rs := [12]) (by kernel_rfl) (by simp) ?_
        refine AllReadyH.cons rfl (fun K hK => ?_) AllReadyH.nil
        go_simp
        go_wp2_with (go_at_call 54; refine (HSp.out _).mono ?_; rintro e w5 ⟨rfl, rfl⟩)
        refine hK.out _ _ trivial (fun hS => ?_)
        clear hK K
        try simp only [List.getElem_toArray, List.getElem_cons_zero, List.getElem_cons_succ, Act.put, List.setIfInBounds_toArray, List.set_cons_zero, List.set_cons_succ]
        refine wpAnyH_take (i := 13) (v := ?vs8_13) rfl (by kernel_rfl) (by kernel_rfl) (by kernel_rfl) (fun _ _ _ h => h) (Or.inl ⟨by rfl, ?hs8_13⟩) (by assumption) ?rs8_13
        case hs8_13 => (intro w hSw; (try dsimp only at hSw); go_simp; try with_reducible rfl)
        try simp only [List.getElem_toArray, List.getElem_cons_zero, List.getElem_cons_succ, Act.put, List.setIfInBounds_toArray, List.set_cons_zero, List.set_cons_succ]
        refine wpAnyH_done (by kernel_rfl) ?_ _
        go_wp2_with fail
        go_ret
        exact ⟨by rw [HE.out]; rfl, HK.out.2.2.2.drew⟩
    · rcases hbb with hD | ⟨hD, hD2, hD3⟩
      · go_wp2_with fail
        refine wp_region_held_drew (S := fun W => True) (by kernel_rfl) trivial (fun hHeld => ?_)
        refine wpAnyH_take (i := 0) (v := ?vs9_0) rfl (by kernel_rfl) (by kernel_rfl) (by kernel_rfl) (fun _ _ _ h => h) (Or.inl ⟨by rfl, ?hs9_0⟩) (by assumption) ?rs9_0
        case hs9_0 => (intro w hSw; (try dsimp only at hSw); go_simp; try with_reducible rfl)
        try simp only [List.getElem_toArray, List.getElem_cons_zero, Act.put, List.setIfInBounds_toArray, List.set_cons_zero, List.set_cons_succ]
        refine wpAnyH_take (i := 1) (v := ?vs9_1) rfl (by kernel_rfl) (by kernel_rfl) (by kernel_rfl) (fun _ _ _ h => h) (Or.inl ⟨by rfl, ?hs9_1⟩) (by assumption) ?rs9_1
        case hs9_1 => (intro w hSw; (try dsimp only at hSw); go_simp; try with_reducible rfl)
        try simp only [List.getElem_toArray, List.getElem_cons_zero, List.getElem_cons_succ, Act.put, List.setIfInBounds_toArray, List.set_cons_zero, List.set_cons_succ]
        refine wpAnyH_take (i := 2) (v := ?vs9_2) rfl (by kernel_rfl) (by kernel_rfl) (by kernel_rfl) (fun _ _ _ h => h) (Or.inl ⟨by rfl, ?hs9_2⟩) (by assumption) ?rs9_2
        case hs9_2 => (intro w hSw; (try dsimp only at hSw); go_simp; try with_reducible rfl)
        try simp only [List.getElem_toArray, List.getElem_cons_zero, List.getElem_cons_succ, Act.put, List.setIfInBounds_toArray, List.set_cons_zero, List.set_cons_succ]
        refine wpAnyH_take (i := 3) (v := ?vs9_3) rfl (by kernel_rfl) (by kernel_rfl) (by kernel_rfl) (fun _ _ _ h => h) (Or.inl ⟨by rfl, ?hs9_3⟩) (by assumption) ?rs9_3
        case hs9_3 => (intro w hSw; (try dsimp only at hSw); go_simp; try with_reducible rfl)
        try simp only [List.getElem_toArray, List.getElem_cons_zero, List.getElem_cons_succ, Act.put, List.setIfInBounds_toArray, List.set_cons_zero, List.set_cons_succ]
        refine wpAnyH_take (i := 4) (v := ?vs9_4) rfl (by kernel_rfl) (by kernel_rfl) (by kernel_rfl) (fun _ _ _ h => h) (Or.inl ⟨by rfl, ?hs9_4⟩) (by assumption) ?rs9_4
        case hs9_4 => (intro w hSw; (try dsimp only at hSw); go_simp; try with_reducible rfl)
        try simp only [List.getElem_toArray, List.getElem_cons_zero, List.getElem_cons_succ, Act.put, List.setIfInBounds_toArray, List.set_cons_zero, List.set_cons_succ]
        refine wpAnyH_take (i := 5) (v := ?vs9_5) rfl (by kernel_rfl) (by kernel_rfl) (by kernel_rfl) (fun _ _ _ h => h) (Or.inl ⟨by rfl, ?hs9_5⟩) (by assumption) ?rs9_5
        case hs9_5 => (intro w hSw; (try dsimp only at hSw); go_simp; try with_reducible rfl)
        try simp only [List.getElem_toArray, List.getElem_cons_zero, List.getElem_cons_succ, Act.put, List.setIfInBounds_toArray, List.set_cons_zero, List.set_cons_succ]
        refine wpAnyH_take (i := 6) (v := ?vs9_6) rfl (by kernel_rfl) (by kernel_rfl) (by kernel_rfl) (fun _ _ _ h => h) (Or.inl ⟨by rfl, ?hs9_6⟩) (by assumption) ?rs9_6
        case hs9_6 => (intro w hSw; (try dsimp only at hSw); go_simp; try with_reducible rfl)
        try simp only [List.getElem_toArray, List.getElem_cons_zero, List.getElem_cons_succ, Act.put, List.setIfInBounds_toArray, List.set_cons_zero, List.set_cons_succ]
        refine wpAnyH_take (i := 7) (v := ?vs9_7) rfl (by kernel_rfl) (by kernel_rfl) (by kernel_rfl) (fun _ _ _ h => h) (Or.inl ⟨by rfl, ?hs9_7⟩) (by assumption) ?rs9_7
        case hs9_7 => (intro w hSw; (try dsimp only at hSw); go_simp; try with_reducible rfl)
        try simp only [List.getElem_toArray, List.getElem_cons_zero, List.getElem_cons_succ, Act.put, List.setIfInBounds_toArray, List.set_cons_zero, List.set_cons_succ]
        refine wpAnyH_take (i := 8) (v := ?vs9_8) rfl (by kernel_rfl) (by kernel_rfl) (by kernel_rfl) (fun _ _ _ h => h) (Or.inl ⟨by rfl, ?hs9_8⟩) (by assumption) ?rs9_8
        case hs9_8 => (intro w hSw; (try dsimp only at hSw); go_simp; try with_reducible rfl)
        try simp only [List.getElem_toArray, List.getElem_cons_zero, List.getElem_cons_succ, Act.put, List.setIfInBounds_toArray, List.set_cons_zero, List.set_cons_succ]
        refine wpAnyH_take (i := 9) (v := ?vs9_9) rfl (by kernel_rfl) (by kernel_rfl) (by kernel_rfl) (fun _ _ _ h => h) (Or.inl ⟨by rfl, ?hs9_9⟩) (by assumption) ?rs9_9
        case hs9_9 => (intro w hSw; (try dsimp only at hSw); go_simp; try with_reducible rfl)
        try simp only [List.getElem_toArray, List.getElem_cons_zero, List.getElem_cons_succ, Act.put, List.setIfInBounds_toArray, List.set_cons_zero, List.set_cons_succ]
        refine wpAnyH_take (i := 10) (v := ?vs9_10) rfl (by kernel_rfl) (by kernel_rfl) (by kernel_rfl) (fun _ _ _ h => h) (Or.inl ⟨by rfl, ?hs9_10⟩) (by assumption) ?rs9_10
        case hs9_10 => (intro w hSw; (try dsimp only at hSw); go_simp; try with_reducible rfl)
        try simp only [List.getElem_toArray, List.getElem_cons_zero, List.getElem_cons_succ, Act.put, List.setIfInBounds_toArray, List.set_cons_zero, List.set_cons_succ]
        refine wpAnyH_take (i := 11) (v := ?vs9_11) rfl (by kernel_rfl) (by kernel_rfl) (by kernel_rfl) (fun _ _ _ h => h) (Or.inl ⟨by rfl, ?hs9_11⟩) (by assumption) ?rs9_11
        case hs9_11 => (intro w hSw; (try dsimp only at hSw); go_simp; try with_reducible rfl)
        try simp only [List.getElem_toArray, List.getElem_cons_zero, List.getElem_cons_succ, Act.put, List.setIfInBounds_toArray, List.set_cons_zero, List.set_cons_succ]
        refine wpAnyH_ready (rs := [12]) (by kernel_rfl) (by simp) ?_
        refine AllReadyH.cons rfl (fun K hK => ?_) AllReadyH.nil
        go_simp
        go_wp2_with (go_at_call 54; refine (HSp.out _).mono ?_; rintro e w5 ⟨rfl, rfl⟩)
        refine hK.out _ _ trivial (fun hS => ?_)
        clear hK K
        try simp only [List.getElem_toArray, List.getElem_cons_zero, List.getElem_cons_succ, Act.put, List.setIfInBounds_toArray, List.set_cons_zero, List.set_cons_succ]
        refine wpAnyH_take (i := 13) (v := ?vs9_13) rfl (by kernel_rfl) (by kernel_rfl) (by kernel_rfl) (fun _ _ _ h => h) (Or.inl ⟨by rfl, ?hs9_13⟩) (by assumption) ?rs9_13
        case hs9_13 => (intro w hSw; (try dsimp only at hSw); go_simp; try with_reducible rfl)
        try simp only [List.getElem_toArray, List.getElem_cons_zero, List.getElem_cons_succ, Act.put, List.setIfInBounds_toArray, List.set_cons_zero, List.set_cons_succ]
        refine wpAnyH_done (by kernel_rfl) ?_ _
        go_wp2_with fail
        go_ret
        exact ⟨by rw [HE.out]; rfl, HK.out.2.2.2.drew⟩
      · have hsp2 := HSp.out
        simp only [hD] at hsp2
        have HSp := Lib.hid hsp2
        clear hsp2
        go_wp2_with fail
        refine wp_region_held_drew (S := fun W => True) (by kernel_rfl) trivial (fun hHeld => ?_)
        refine wpAnyH_take (i := 0) (v := ?vs10_0) rfl (by kernel_rfl) (by kernel_rfl) (by kernel_rfl) (fun _ _ _ h => h) (Or.inl ⟨by rfl, ?hs10_0⟩) (by assumption) ?rs10_0
        case hs10_0 => (intro w hSw; (try dsimp only at hSw); go_simp; try with_reducible rfl)
        try simp only [List.getElem_toArray, List.getElem_cons_zero, Act.put, List.setIfInBounds_toArray, List.set_cons_zero, List.set_cons_succ]
        refine wpAnyH_take (i := 1) (v := ?vs10_1) rfl (by kernel_rfl) (by kernel_rfl) (by kernel_rfl) (fun _ _ _ h => h) (Or.inl ⟨by rfl, ?hs10_1⟩) (by assumption) ?rs10_1
        case hs10_1 => (intro w hSw; (try dsimp only at hSw); go_simp; try with_reducible rfl)
        try simp only [List.getElem_toArray, List.getElem_cons_zero, List.getElem_cons_succ, Act.put, List.setIfInBounds_toArray, List.set_cons_zero, List.set_cons_succ]
        refine wpAnyH_take (i := 2) (v := ?vs10_2) rfl (by kernel_rfl) (by kernel_rfl) (by kernel_rfl) (fun _ _ _ h => h) (Or.inl ⟨by rfl, ?hs10_2⟩) (by assumption) ?rs10_2
        case hs10_2 => (intro w hSw; (try dsimp only at hSw); go_simp; try with_reducible rfl)
        try simp only [List.getElem_toArray, List.getElem_cons_zero, List.getElem_cons_succ, Act.put, List.setIfInBounds_toArray, List.set_cons_zero, List.set_cons_succ]
        refine wpAnyH_take (i := 3) (v := ?vs10_3) rfl (by kernel_rfl) (by kernel_rfl) (by kernel_rfl) (fun _ _ _ h => h) (Or.inl ⟨by rfl, ?hs10_3⟩) (by assumption) ?rs10_3
        case hs10_3 => (intro w hSw; (try dsimp only at hSw); go_simp; try with_reducible rfl)
        try simp only [List.getElem_toArray, List.getElem_cons_zero, List.getElem_cons_succ, Act.put, List.setIfInBounds_toArray, List.set_cons_zero, List.set_cons_succ]
        refine wpAnyH_take (i := 4) (v := ?vs10_4) rfl (by kernel_rfl) (by kernel_rfl) (by kernel_rfl) (fun _ _ _ h => h) (Or.inl ⟨by rfl, ?hs10_4⟩) (by assumption) ?rs10_4
        case hs10_4 => (intro w hSw; (try dsimp only at hSw); go_simp; try with_reducible rfl)
        try simp only [List.getElem_toArray, List.getElem_cons_zero, List.getElem_cons_succ, Act.put, List.setIfInBounds_toArray, List.set_cons_zero, List.set_cons_succ]
        refine wpAnyH_take (i := 5) (v := ?vs10_5) rfl (by kernel_rfl) (by kernel_rfl) (by kernel_rfl) (fun _ _ _ h => h) (Or.inl ⟨by rfl, ?hs10_5⟩) (by assumption) ?rs10_5
        case hs10_5 => (intro w hSw; (try dsimp only at hSw); go_simp; try with_reducible rfl)
        try simp only [List.getElem_toArray, List.getElem_cons_zero, List.getElem_cons_succ, Act.put, List.setIfInBounds_toArray, List.set_cons_zero, List.set_cons_succ]
        refine wpAnyH_take (i := 6) (v := ?vs10_6) rfl (by kernel_rfl) (by kernel_rfl) (by kernel_rfl) (fun _ _ _ h => h) (Or.inl ⟨by rfl, ?hs10_6⟩) (by assumption) ?rs10_6
        case hs10_6 => (intro w hSw; (try dsimp only at hSw); go_simp; try with_reducible rfl)
        try simp only [List.getElem_toArray, List.getElem_cons_zero, List.getElem_cons_succ, Act.put, List.setIfInBounds_toArray, List.set_cons_zero, List.set_cons_succ]
        refine wpAnyH_take (i := 7) (v := ?vs10_7) rfl (by kernel_rfl) (by kernel_rfl) (by kernel_rfl) (fun _ _ _ h => h) (Or.inl ⟨by rfl, ?hs10_7⟩) (by assumption) ?rs10_7
        case hs10_7 => (intro w hSw; (try dsimp only at hSw); go_simp; try with_reducible rfl)
        try simp only [List.getElem_toArray, List.getElem_cons_zero, List.getElem_cons_succ, Act.put, List.setIfInBounds_toArray, List.set_cons_zero, List.set_cons_succ]
        refine wpAnyH_take (i := 8) (v := ?vs10_8) rfl (by kernel_rfl) (by kernel_rfl) (by kernel_rfl) (fun _ _ _ h => h) (Or.inl ⟨by rfl, ?hs10_8⟩) (by assumption) ?rs10_8
        case hs10_8 => (intro w hSw; (try dsimp only at hSw); go_simp; try with_reducible rfl)
        try simp only [List.getElem_toArray, List.getElem_cons_zero, List.getElem_cons_succ, Act.put, List.setIfInBounds_toArray, List.set_cons_zero, List.set_cons_succ]
        refine wpAnyH_take (i := 9) (v := ?vs10_9) rfl (by kernel_rfl) (by kernel_rfl) (by kernel_rfl) (fun _ _ _ h => h) (Or.inl ⟨by rfl, ?hs10_9⟩) (by assumption) ?rs10_9
        case hs10_9 => (intro w hSw; (try dsimp only at hSw); go_simp; try with_reducible rfl)
        try simp only [List.getElem_toArray, List.getElem_cons_zero, List.getElem_cons_succ, Act.put, List.setIfInBounds_toArray, List.set_cons_zero, List.set_cons_succ]
        refine wpAnyH_take (i := 10) (v := ?vs10_10) rfl (by kernel_rfl) (by kernel_rfl) (by kernel_rfl) (fun _ _ _ h => h) (Or.inl ⟨by rfl, ?hs10_10⟩) (by assumption) ?rs10_10
        case hs10_10 => (intro w hSw; (try dsimp only at hSw); go_simp; try with_reducible rfl)
        try simp only [List.getElem_toArray, List.getElem_cons_zero, List.getElem_cons_succ, Act.put, List.setIfInBounds_toArray, List.set_cons_zero, List.set_cons_succ]
        refine wpAnyH_take (i := 11) (v := ?vs10_11) rfl (by kernel_rfl) (by kernel_rfl) (by kernel_rfl) (fun _ _ _ h => h) (Or.inl ⟨by rfl, ?hs10_11⟩) (by assumption) ?rs10_11
        case hs10_11 => (intro w hSw; (try dsimp only at hSw); go_simp; try with_reducible rfl)
        try simp only [List.getElem_toArray, List.getElem_cons_zero, List.getElem_cons_succ, Act.put, List.setIfInBounds_toArray, List.set_cons_zero, List.set_cons_succ]
        refine wpAnyH_ready (rs := [12]) (by kernel_rfl) (by simp) ?_
        refine AllReadyH.cons rfl (fun K hK => ?_) AllReadyH.nil
        go_simp
        go_wp2_with (go_at_call 54; refine (HSp.out _).mono ?_; rintro e w5 ⟨rfl, rfl⟩)
        refine hK.out _ _ trivial (fun hS => ?_)
        clear hK K
        try simp only [List.getElem_toArray, List.getElem_cons_zero, List.getElem_cons_succ, Act.put, List.setIfInBounds_toArray, List.set_cons_zero, List.set_cons_succ]
        refine wpAnyH_take (i := 13) (v := ?vs10_13) rfl (by kernel_rfl) (by kernel_rfl) (by kernel_rfl) (fun _ _ _ h => h) (Or.inl ⟨by rfl, ?hs10_13⟩) (by assumption) ?rs10_13
        case hs10_13 => (intro w hSw; (try dsimp only at hSw); go_simp; try with_reducible rfl)
        try simp only [List.getElem_toArray, List.getElem_cons_zero, List.getElem_cons_succ, Act.put, List.setIfInBounds_toArray, List.set_cons_zero, List.set_cons_succ]
        refine wpAnyH_done (by kernel_rfl) ?_ _
        go_wp2_with fail
        go_ret
        exact ⟨by rw [HE.out]; rfl, HK.out.2.2.2.drew⟩
  · rw [hs] at hsp htl
    have HS : RowKit.Hid (Lib.stripR (n - 3) (t.data.toList.take (n - 3)) = Lib.stripR t.data.toList.length t.data.toList) := Lib.hid (by
      rw [← HK.out.2.2.1]
      exact (strip_step _ n HN.out.2.2 3 (by rw [htl]; rfl) (by omega) (by omega)).symm)
    have HSp := Lib.hid hsp
    clear hsp htl hs h3 hcN
    rcases hcc with hA | ⟨hA, hB⟩
    · rcases hbb with hD | ⟨hD, hD2, hD3⟩
      · go_wp2_with fail
        refine wp_region_held_drew (S := fun W => True) (by kernel_rfl) trivial (fun hHeld => ?_)
        refine wpAnyH_take (i := 0) (v := ?vs11_0) rfl (by kernel_rfl) (by kernel_rfl) (by kernel_rfl) (fun _ _ _ h => h) (Or.inl ⟨by rfl, ?hs11_0⟩) (by assumption) ?rs11_0
        case hs11_0 => (intro w hSw; (try dsimp only at hSw); go_simp; try with_reducible rfl)
        try simp only [List.getElem_toArray, List.getElem_cons_zero, Act.put, List.setIfInBounds_toArray, List.set_cons_zero, List.set_cons_succ]
        refine wpAnyH_take (i := 1) (v := ?vs11_1) rfl (by kernel_rfl) (by kernel_rfl) (by kernel_rfl) (fun _ _ _ h => h) (Or.inl ⟨by rfl, ?hs11_1⟩) (by assumption) ?rs11_1
        case hs11_1 => (intro w hSw; (try dsimp only at hSw); go_simp; try with_reducible rfl)
        try simp only [List.getElem_toArray, List.getElem_cons_zero, List.getElem_cons_succ, Act.put, List.setIfInBounds_toArray, List.set_cons_zero, List.set_cons_succ]
        refine wpAnyH_take (i := 2) (v := ?vs11_2) rfl (by kernel_rfl) (by kernel_rfl) (by kernel_rfl) (fun _ _ _ h => h) (Or.inl ⟨by rfl, ?hs11_2⟩) (by assumption) ?rs11_2
        case hs11_2 => (intro w hSw; (try dsimp only at hSw); go_simp; try with_reducible rfl)
        try simp only [List.getElem_toArray, List.getElem_cons_zero, List.getElem_cons_succ, Act.put, List.setIfInBounds_toArray, List.set_cons_zero, List.set_cons_succ]
        refine wpAnyH_take (i := 3) (v := ?vs11_3) rfl (by kernel_rfl) (by kernel_rfl) (by kernel_rfl) (fun _ _ _ h => h) (Or.inl ⟨by rfl, ?hs11_3⟩) (by assumption) ?rs11_3
        case hs11_3 => (intro w hSw; (try dsimp only at hSw); go_simp; try with_reducible rfl)
        try simp only [List.getElem_toArray, List.getElem_cons_zero, List.getElem_cons_succ, Act.put, List.setIfInBounds_toArray, List.set_cons_zero, List.set_cons_succ]
        refine wpAnyH_take (i := 4) (v := ?vs11_4) rfl (by kernel_rfl) (by kernel_rfl) (by kernel_rfl) (fun _ _ _ h => h) (Or.inl ⟨by rfl, ?hs11_4⟩) (by assumption) ?rs11_4
        case hs11_4 => (intro w hSw; (try dsimp only at hSw); go_simp; try with_reducible rfl)
        try simp only [List.getElem_toArray, List.getElem_cons_zero, List.getElem_cons_succ, Act.put, List.setIfInBounds_toArray, List.set_cons_zero, List.set_cons_succ]
        refine wpAnyH_take (i := 5) (v := ?vs11_5) rfl (by kernel_rfl) (by kernel_rfl) (by kernel_rfl) (fun _ _ _ h => h) (Or.inl ⟨by rfl, ?hs11_5⟩) (by assumption) ?rs11_5
        case hs11_5 => (intro w hSw; (try dsimp only at hSw); go_simp; try with_reducible rfl)
        try simp only [List.getElem_toArray, List.getElem_cons_zero, List.getElem_cons_succ, Act.put, List.setIfInBounds_toArray, List.set_cons_zero, List.set_cons_succ]
        refine wpAnyH_take (i := 6) (v := ?vs11_6) rfl (by kernel_rfl) (by kernel_rfl) (by kernel_rfl) (fun _ _ _ h => h) (Or.inl ⟨by rfl, ?hs11_6⟩) (by assumption) ?rs11_6
        case hs11_6 => (intro w hSw; (try dsimp only at hSw); go_simp; try with_reducible rfl)
        try simp only [List.getElem_toArray, List.getElem_cons_zero, List.getElem_cons_succ, Act.put, List.setIfInBounds_toArray, List.set_cons_zero, List.set_cons_succ]
        refine wpAnyH_take (i := 7) (v := ?vs11_7) rfl (by kernel_rfl) (by kernel_rfl) (by kernel_rfl) (fun _ _ _ h => h) (Or.inl ⟨by rfl, ?hs11_7⟩) (by assumption) ?rs11_7
        case hs11_7 => (intro w hSw; (try dsimp only at hSw); go_simp; try with_reducible rfl)
        try simp only [List.getElem_toArray, List.getElem_cons_zero, List.getElem_cons_succ, Act.put, List.setIfInBounds_toArray, List.set_cons_zero, List.set_cons_succ]
        refine wpAnyH_take (i := 8) (v := ?vs11_8) rfl (by kernel_rfl) (by kernel_rfl) (by kernel_rfl) (fun _ _ _ h => h) (Or.inl ⟨by rfl, ?hs11_8⟩) (by assumption) ?rs11_8
        case hs11_8 => (intro w hSw; (try dsimp only at hSw); go_simp; try with_reducible rfl)
        try simp only [List.getElem_toArray, List.getElem_cons_zero, List.getElem_cons_succ, Act.put, List.setIfInBounds_toArray, List.set_cons_zero, List.set_cons_succ]
        refine wpAnyH_take (i := 9) (v := ?vs11_9) rfl (by kernel_rfl) (by kernel_rfl) (by kernel_rfl) (fun _ _ _ h => h) (Or.inl ⟨by rfl, ?hs11_9⟩) (by assumption) ?rs11_9
        case hs11_9 => (intro w hSw; (try dsimp only at hSw); go_simp; try with_reducible rfl)
        try simp only [List.getElem_toArray, List.getElem_cons_zero, List.getElem_cons_succ, Act.put, List.setIfInBounds_toArray, List.set_cons_zero, List.set_cons_succ]
        refine wpAnyH_take (i := 10) (v := ?vs11_10) rfl (by kernel_rfl) (by kernel_rfl) (by kernel_rfl) (fun _ _ _ h => h) (Or.inl ⟨by rfl, ?hs11_10⟩) (by assumption) ?rs11_10
        case hs11_10 => (intro w hSw; (try dsimp only at hSw); go_simp; try with_reducible rfl)
        try simp only [List.getElem_toArray, List.getElem_cons_zero, List.getElem_cons_succ, Act.put, List.setIfInBounds_toArray, List.set_cons_zero, List.set_cons_succ]
        refine wpAnyH_take (i := 11) (v := ?vs11_11) rfl (by kernel_rfl) (by kernel_rfl) (by kernel_rfl) (fun _ _ _ h => h) (Or.inl ⟨by rfl, ?hs11_11⟩) (by assumption) ?rs11_11
        case hs11_11 => (intro w hSw; (try dsimp only at hSw); go_simp; try with_reducible rfl)
        try simp only [List.getElem_toArray, List.getElem_cons_zero, List.getElem_cons_succ, Act.put, List.setIfInBounds_toArray, List.set_cons_zero, List.set_cons_succ]
        refine wpAnyH_ready (rs := [12]) (by kernel_rfl) (by simp) ?_
        refine AllReadyH.cons rfl (fun K hK => ?_) AllReadyH.nil
        go_simp
        go_wp2_with (go_at_call 54; refine (HSp.out _).mono ?_; rintro e w5 ⟨rfl, rfl⟩)
        refine hK.out _ _ trivial (fun hS => ?_)
        clear hK K
        try simp only [List.getElem_toArray, List.getElem_cons_zero, List.getElem_cons_succ, Act.put, List.setIfInBounds_toArray, List.set_cons_zero, List.set_cons_succ]
        refine wpAnyH_take (i := 13) (v := ?vs11_13) rfl (by kernel_rfl) (by kernel_rfl) (by kernel_rfl) (fun _ _ _ h => h) (Or.inl ⟨by rfl, ?hs11_13⟩) (by assumption) ?rs11_13
        case hs11_13 => (intro w hSw; (try dsimp only at hSw); go_simp; try with_reducible rfl)
        try simp only [List.getElem_toArray, List.getElem_cons_zero, List.getElem_cons_succ, Act.put, List.setIfInBounds_toArray, List.set_cons_zero, List.set_cons_succ]
        refine wpAnyH_done (by kernel_rfl) ?_ _
        go_wp2_with fail
        go_roundg n3
        case measure => have := HN3.out; have := HK.out.1; omega
        case rel => exact ⟨n3, by go_num, rfl, by omega, by rw [HN3.out]; exact HS.out, HK.out.2.2.2.drew⟩
      · have hsp2 := HSp.out
        simp only [hD] at hsp2
        have HSp := Lib.hid hsp2
        clear hsp2
        go_wp2_with fail
        refine wp_region_held_drew (S := fun W => True) (by kernel_rfl) trivial (fun hHeld => ?_)
        refine wpAnyH_take (i := 0) (v := ?vs12_0) rfl (by kernel_rfl) (by kernel_rfl) (by kernel_rfl) (fun _ _ _ h => h) (Or.inl ⟨by rfl, ?hs12_0⟩) (by assumption) ?rs12_0
        case hs12_0 => (intro w hSw; (try dsimp only at hSw); go_simp; try with_reducible rfl)
        try simp only [List.getElem_toArray, List.getElem_cons_zero, Act.put, List.setIfInBounds_toArray, List.set_cons_zero, List.set_cons_succ]
        refine wpAnyH_take (i := 1) (v := ?vs12_1) rfl (by kernel_rfl) (by kernel_rfl) (by kernel_rfl) (fun _ _ _ h => h) (Or.inl ⟨by rfl, ?hs12_1⟩) (by assumption) ?rs12_1
        case hs12_1 => (intro w hSw; (try dsimp only at hSw); go_simp; try with_reducible rfl)
        try simp only [List.getElem_toArray, List.getElem_cons_zero, List.getElem_cons_succ, Act.put, List.setIfInBounds_toArray, List.set_cons_zero, List.set_cons_succ]
        refine wpAnyH_take (i := 2) (v := ?vs12_2) rfl (by kernel_rfl) (by kernel_rfl) (by kernel_rfl) (fun _ _ _ h => h) (Or.inl ⟨by rfl, ?hs12_2⟩) (by assumption) ?rs12_2
        case hs12_2 => (intro w hSw; (try dsimp only at hSw); go_simp; try with_reducible rfl)
        try simp only [List.getElem_toArray, List.getElem_cons_zero, List.getElem_cons_succ, Act.put, List.setIfInBounds_toArray, List.set_cons_zero, List.set_cons_succ]
        refine wpAnyH_take (i := 3) (v := ?vs12_3) rfl (by kernel_rfl) (by kernel_rfl) (by kernel_rfl) (fun _ _ _ h => h) (Or.inl ⟨by rfl, ?hs12_3⟩) (by assumption) ?rs12_3
        case hs12_3 => (intro w hSw; (try dsimp only at hSw); go_simp; try with_reducible rfl)
        try simp only [List.getElem_toArray, List.getElem_cons_zero, List.getElem_cons_succ, Act.put, List.setIfInBounds_toArray, List.set_cons_zero, List.set_cons_succ]
        refine wpAnyH_take (i := 4) (v := ?vs12_4) rfl (by kernel_rfl) (by kernel_rfl) (by kernel_rfl) (fun _ _ _ h => h) (Or.inl ⟨by rfl, ?hs12_4⟩) (by assumption) ?rs12_4
        case hs12_4 => (intro w hSw; (try dsimp only at hSw); go_simp; try with_reducible rfl)
        try simp only [List.getElem_toArray, List.getElem_cons_zero, List.getElem_cons_succ, Act.put, List.setIfInBounds_toArray, List.set_cons_zero, List.set_cons_succ]
        refine wpAnyH_take (i := 5) (v := ?vs12_5) rfl (by kernel_rfl) (by kernel_rfl) (by kernel_rfl) (fun _ _ _ h => h) (Or.inl ⟨by rfl, ?hs12_5⟩) (by assumption) ?rs12_5
        case hs12_5 => (intro w hSw; (try dsimp only at hSw); go_simp; try with_reducible rfl)
        try simp only [List.getElem_toArray, List.getElem_cons_zero, List.getElem_cons_succ, Act.put, List.setIfInBounds_toArray, List.set_cons_zero, List.set_cons_succ]
        refine wpAnyH_take (i := 6) (v := ?vs12_6) rfl (by kernel_rfl) (by kernel_rfl) (by kernel_rfl) (fun _ _ _ h => h) (Or.inl ⟨by rfl, ?hs12_6⟩) (by assumption) ?rs12_6
        case hs12_6 => (intro w hSw; (try dsimp only at hSw); go_simp; try with_reducible rfl)
        try simp only [List.getElem_toArray, List.getElem_cons_zero, List.getElem_cons_succ, Act.put, List.setIfInBounds_toArray, List.set_cons_zero, List.set_cons_succ]
        refine wpAnyH_take (i := 7) (v := ?vs12_7) rfl (by kernel_rfl) (by kernel_rfl) (by kernel_rfl) (fun _ _ _ h => h) (Or.inl ⟨by rfl, ?hs12_7⟩) (by assumption) ?rs12_7
        case hs12_7 => (intro w hSw; (try dsimp only at hSw); go_simp; try with_reducible rfl)
        try simp only [List.getElem_toArray, List.getElem_cons_zero, List.getElem_cons_succ, Act.put, List.setIfInBounds_toArray, List.set_cons_zero, List.set_cons_succ]
        refine wpAnyH_take (i := 8) (v := ?vs12_8) rfl (by kernel_rfl) (by kernel_rfl) (by kernel_rfl) (fun _ _ _ h => h) (Or.inl ⟨by rfl, ?hs12_8⟩) (by assumption) ?rs12_8
        case hs12_8 => (intro w hSw; (try dsimp only at hSw); go_simp; try with_reducible rfl)
        try simp only [List.getElem_toArray, List.getElem_cons_zero, List.getElem_cons_succ, Act.put, List.setIfInBounds_toArray, List.set_cons_zero, List.set_cons_succ]
        refine wpAnyH_take (i := 9) (v := ?vs12_9) rfl (by kernel_rfl) (by kernel_rfl) (by kernel_rfl) (fun _ _ _ h => h) (Or.inl ⟨by rfl, ?hs12_9⟩) (by assumption) ?rs12_9
        case hs12_9 => (intro w hSw; (try dsimp only at hSw); go_simp; try with_reducible rfl)
        try simp only [List.getElem_toArray, List.getElem_cons_zero, List.getElem_cons_succ, Act.put, List.setIfInBounds_toArray, List.set_cons_zero, List.set_cons_succ]
        refine wpAnyH_take (i := 10) (v := ?vs12_10) rfl (by kernel_rfl) (by kernel_rfl) (by kernel_rfl) (fun _ _ _ h => h) (Or.inl ⟨by rfl, ?hs12_10⟩) (by assumption) ?rs12_10
        case hs12_10 => (intro w hSw; (try dsimp only at hSw); go_simp; try with_reducible rfl)
        try simp only [List.getElem_toArray, List.getElem_cons_zero, List.getElem_cons_succ, Act.put, List.setIfInBounds_toArray, List.set_cons_zero, List.set_cons_succ]
        refine wpAnyH_take (i := 11) (v := ?vs12_11) rfl (by kernel_rfl) (by kernel_rfl) (by kernel_rfl) (fun _ _ _ h => h) (Or.inl ⟨by rfl, ?hs12_11⟩) (by assumption) ?rs12_11
        case hs12_11 => (intro w hSw; (try dsimp only at hSw); go_simp; try with_reducible rfl)
        try simp only [List.getElem_toArray, List.getElem_cons_zero, List.getElem_cons_succ, Act.put, List.setIfInBounds_toArray, List.set_cons_zero, List.set_cons_succ]
        refine wpAnyH_ready (rs := [12]) (by kernel_rfl) (by simp) ?_
        refine AllReadyH.cons rfl (fun K hK => ?_) AllReadyH.nil
        go_simp
        go_wp2_with (go_at_call 54; refine (HSp.out _).mono ?_; rintro e w5 ⟨rfl, rfl⟩)
        refine hK.out _ _ trivial (fun hS => ?_)
        clear hK K
        try simp only [List.getElem_toArray, List.getElem_cons_zero, List.getElem_cons_succ, Act.put, List.setIfInBounds_toArray, List.set_cons_zero, List.set_cons_succ]
        refine wpAnyH_take (i := 13) (v := ?vs12_13) rfl (by kernel_rfl) (by kernel_rfl) (by kernel_rfl) (fun _ _ _ h => h) (Or.inl ⟨by rfl, ?hs12_13⟩) (by assumption) ?rs12_13
        case hs12_13 => (intro w hSw; (try dsimp only at hSw); go_simp; try with_reducible rfl)
        try simp only [List.getElem_toArray, List.getElem_cons_zero, List.getElem_cons_succ, Act.put, List.setIfInBounds_toArray, List.set_cons_zero, List.set_cons_succ]
        refine wpAnyH_done (by kernel_rfl) ?_ _
        go_wp2_with fail
        go_roundg n3
        case measure => have := HN3.out; have := HK.out.1; omega
        case rel => exact ⟨n3, by go_num, rfl, by omega, by rw [HN3.out]; exact HS.out, HK.out.2.2.2.drew⟩
    · rcases hbb with hD | ⟨hD, hD2, hD3⟩
      · go_wp2_with fail
        refine wp_region_held_drew (S := fun W => True) (by kernel_rfl) trivial (fun hHeld => ?_)
        refine wpAnyH_take (i := 0) (v := ?vs13_0) rfl (by kernel_rfl) (by kernel_rfl) (by kernel_rfl) (fun _ _ _ h => h) (Or.inl ⟨by rfl, ?hs13_0⟩) (by assumption) ?rs13_0
        case hs13_0 => (intro w hSw; (try dsimp only at hSw); go_simp; try with_reducible rfl)
        try simp only [List.getElem_toArray, List.getElem_cons_zero, Act.put, List.setIfInBounds_toArray, List.set_cons_zero, List.set_cons_succ]
        refine wpAnyH_take (i := 1) (v := ?vs13_1) rfl (by kernel_rfl) (by kernel_rfl) (by kernel_rfl) (fun _ _ _ h => h) (Or.inl ⟨by rfl, ?hs13_1⟩) (by assumption) ?rs13_1
        case hs13_1 => (intro w hSw; (try dsimp only at hSw); go_simp; try with_reducible rfl)
        try simp only [List.getElem_toArray, List.getElem_cons_zero, List.getElem_cons_succ, Act.put, List.setIfInBounds_toArray, List.set_cons_zero, List.set_cons_succ]
        refine wpAnyH_take (i := 2) (v := ?vs13_2) rfl (by kernel_rfl) (by kernel_rfl) (by kernel_rfl) (fun _ _ _ h => h) (Or.inl ⟨by rfl, ?hs13_2⟩) (by assumption) ?rs13_2
        case hs13_2 => (intro w hSw; (try dsimp only at hSw); go_simp; try with_reducible rfl)
        try simp only [List.getElem_toArray, List.getElem_cons_zero, List.getElem_cons_succ, Act.put, List.setIfInBounds_toArray, List.set_cons_zero, List.set_cons_succ]
        refine wpAnyH_take (i := 3) (v := ?vs13_3) rfl (by kernel_rfl) (by kernel_rfl) (by kernel_rfl) (fun _ _ _ h => h) (Or.inl ⟨by rfl, ?hs13_3⟩) (by assumption) ?rs13_3
        case hs13_3 => (intro w hSw; (try dsimp only at hSw); go_simp; try with_reducible rfl)
        try simp only [List.getElem_toArray, List.getElem_cons_zero, List.getElem_cons_succ, Act.put, List.setIfInBounds_toArray, List.set_cons_zero, List.set_cons_succ]
        refine wpAnyH_take (i := 4) (v := ?vs13_4) rfl (by kernel_rfl) (by kernel_rfl) (by kernel_rfl) (fun _ _ _ h => h) (Or.inl ⟨by rfl, ?hs13_4⟩) (by assumption) ?rs13_4
        case hs13_4 => (intro w hSw; (try dsimp only at hSw); go_simp; try with_reducible rfl)
        try simp only [List.getElem_toArray, List.getElem_cons_zero, List.getElem_cons_succ, Act.put, List.setIfInBounds_toArray, List.set_cons_zero, List.set_cons_succ]
        refine wpAnyH_take (i := 5) (v := ?vs13_5) rfl (by kernel_rfl) (by kernel_rfl) (by kernel_rfl) (fun _ _ _ h => h) (Or.inl ⟨by rfl, ?hs13_5⟩) (by assumption) ?rs13_5
        case hs13_5 => (intro w hSw; (try dsimp only at hSw); go_simp; try with_reducible rfl)
        try simp only [List.getElem_toArray, List.getElem_cons_zero, List.getElem_cons_succ, Act.put, List.setIfInBounds_toArray, List.set_cons_zero, List.set_cons_succ]
        refine wpAnyH_take (i := 6) (v := ?vs13_6) rfl (by kernel_rfl) (by kernel_rfl) (by kernel_rfl) (fun _ _ _ h => h) (Or.inl ⟨by rfl, ?hs13_6⟩) (by assumption) ?rs13_6
        case hs13_6 => (intro w hSw; (try dsimp only at hSw); go_simp; try with_reducible rfl)
        try simp only [List.getElem_toArray, List.getElem_cons_zero, List.getElem_cons_succ, Act.put, List.setIfInBounds_toArray, List.set_cons_zero, List.set_cons_succ]
        refine wpAnyH_take (i := 7) (v := ?vs13_7) rfl (by kernel_rfl) (by kernel_rfl) (by kernel_rfl) (fun _ _ _ h => h) (Or.inl ⟨by rfl, ?hs13_7⟩) (by assumption) ?rs13_7
        case hs13_7 => (intro w hSw; (try dsimp only at hSw); go_simp; try with_reducible rfl)
        try simp only [List.getElem_toArray, List.getElem_cons_zero, List.getElem_cons_succ, Act.put, List.setIfInBounds_toArray, List.set_cons_zero, List.set_cons_succ]
        refine wpAnyH_take (i := 8) (v := ?vs13_8) rfl (by kernel_rfl) (by kernel_rfl) (by kernel_rfl) (fun _ _ _ h => h) (Or.inl ⟨by rfl, ?hs13_8⟩) (by assumption) ?rs13_8
        case hs13_8 => (intro w hSw; (try dsimp only at hSw); go_simp; try with_reducible rfl)
        try simp only [List.getElem_toArray, List.getElem_cons_zero, List.getElem_cons_succ, Act.put, List.setIfInBounds_toArray, List.set_cons_zero, List.set_cons_succ]
        refine wpAnyH_take (i := 9) (v := ?vs13_9) rfl (by kernel_rfl) (by kernel_rfl) (by kernel_rfl) (fun _ _ _ h => h) (Or.inl ⟨by rfl, ?hs13_9⟩) (by assumption) ?rs13_9
        case hs13_9 => (intro w hSw; (try dsimp only at hSw); go_simp; try with_reducible rfl)
        try simp only [List.getElem_toArray, List.getElem_cons_zero, List.getElem_cons_succ, Act.put, List.setIfInBounds_toArray, List.set_cons_zero, List.set_cons_succ]
        refine wpAnyH_take (i := 10) (v := ?vs13_10) rfl (by kernel_rfl) (by kernel_rfl) (by kernel_rfl) (fun _ _ _ h => h) (Or.inl ⟨by rfl, ?hs13_10⟩) (by assumption) ?rs13_10
        case hs13_10 => (intro w hSw; (try dsimp only at hSw); go_simp; try with_reducible rfl)
        try simp only [List.getElem_toArray, List.getElem_cons_zero, List.getElem_cons_succ, Act.put, List.setIfInBounds_toArray, List.set_cons_zero, List.set_cons_succ]
        refine wpAnyH_take (i := 11) (v := ?vs13_11) rfl (by kernel_rfl) (by kernel_rfl) (by kernel_rfl) (fun _ _ _ h => h) (Or.inl ⟨by rfl, ?hs13_11⟩) (by assumption) ?rs13_11
        case hs13_11 => (intro w hSw; (try dsimp only at hSw); go_simp; try with_reducible rfl)
        try simp only [List.getElem_toArray, List.getElem_cons_zero, List.getElem_cons_succ, Act.put, List.setIfInBounds_toArray, List.set_cons_zero, List.set_cons_succ]
        refine wpAnyH_ready (rs := [12]) (by kernel_rfl) (by simp) ?_
        refine AllReadyH.cons rfl (fun K hK => ?_) AllReadyH.nil
        go_simp
        go_wp2_with (go_at_call 54; refine (HSp.out _).mono ?_; rintro e w5 ⟨rfl, rfl⟩)
        refine hK.out _ _ trivial (fun hS => ?_)
        clear hK K
        try simp only [List.getElem_toArray, List.getElem_cons_zero, List.getElem_cons_succ, Act.put, List.setIfInBounds_toArray, List.set_cons_zero, List.set_cons_succ]
        refine wpAnyH_take (i := 13) (v := ?vs13_13) rfl (by kernel_rfl) (by kernel_rfl) (by kernel_rfl) (fun _ _ _ h => h) (Or.inl ⟨by rfl, ?hs13_13⟩) (by assumption) ?rs13_13
        case hs13_13 => (intro w hSw; (try dsimp only at hSw); go_simp; try with_reducible rfl)
        try simp only [List.getElem_toArray, List.getElem_cons_zero, List.getElem_cons_succ, Act.put, List.setIfInBounds_toArray, List.set_cons_zero, List.set_cons_succ]
        refine wpAnyH_done (by kernel_rfl) ?_ _
        go_wp2_with fail
        go_roundg n3
        case measure => have := HN3.out; have := HK.out.1; omega
        case rel => exact ⟨n3, by go_num, rfl, by omega, by rw [HN3.out]; exact HS.out, HK.out.2.2.2.drew⟩
      · have hsp2 := HSp.out
        simp only [hD] at hsp2
        have HSp := Lib.hid hsp2
        clear hsp2
        go_wp2_with fail
        refine wp_region_held_drew (S := fun W => True) (by kernel_rfl) trivial (fun hHeld => ?_)
        refine wpAnyH_take (i := 0) (v := ?vs14_0) rfl (by kernel_rfl) (by kernel_rfl) (by kernel_rfl) (fun _ _ _ h => h) (Or.inl ⟨by rfl, ?hs14_0⟩) (by assumption) ?rs14_0
        case hs14_0 => (intro w hSw; (try dsimp only at hSw); go_simp; try with_reducible rfl)
        try simp only [List.getElem_toArray, List.getElem_cons_zero, Act.put, List.setIfInBounds_toArray, List.set_cons_zero, List.set_cons_succ]
        refine wpAnyH_take (i := 1) (v := ?vs14_1) rfl (by kernel_rfl) (by kernel_rfl) (by kernel_rfl) (fun _ _ _ h => h) (Or.inl ⟨by rfl, ?hs14_1⟩) (by assumption) ?rs14_1
        case hs14_1 => (intro w hSw; (try dsimp only at hSw); go_simp; try with_reducible rfl)
        try simp only [List.getElem_toArray, List.getElem_cons_zero, List.getElem_cons_succ, Act.put, List.setIfInBounds_toArray, List.set_cons_zero, List.set_cons_succ]
        refine wpAnyH_take (i := 2) (v := ?vs14_2) rfl (by kernel_rfl) (by kernel_rfl) (by kernel_rfl) (fun _ _ _ h => h) (Or.inl ⟨by rfl, ?hs14_2⟩) (by assumption) ?rs14_2
        case hs14_2 => (intro w hSw; (try dsimp only at hSw); go_simp; try with_reducible rfl)
        try simp only [List.getElem_toArray, List.getElem_cons_zero, List.getElem_cons_succ, Act.put, List.setIfInBounds_toArray, List.set_cons_zero, List.set_cons_succ]
        refine wpAnyH_take (i := 3) (v := ?vs14_3) rfl (by kernel_rfl) (by kernel_rfl) (by kernel_rfl) (fun _ _ _ h => h) (Or.inl ⟨by rfl, ?hs14_3⟩) (by assumption) ?rs14_3
        case hs14_3 => (intro w hSw; (try dsimp only at hSw); go_simp; try with_reducible rfl)
        try simp only [List.getElem_toArray, List.getElem_cons_zero, List.getElem_cons_succ, Act.put, List.setIfInBounds_toArray, List.set_cons_zero, List.set_cons_succ]
        refine wpAnyH_take (i := 4) (v := ?vs14_4) rfl (by kernel_rfl) (by kernel_rfl) (by kernel_rfl) (fun _ _ _ h => h) (Or.inl ⟨by rfl, ?hs14_4⟩) (by assumption) ?rs14_4
        case hs14_4 => (intro w hSw; (try dsimp only at hSw); go_simp; try with_reducible rfl)
        try simp only [List.getElem_toArray, List.getElem_cons_zero, List.getElem_cons_succ, Act.put, List.setIfInBounds_toArray, List.set_cons_zero, List.set_cons_succ]
        refine wpAnyH_take (i := 5) (v := ?vs14_5) rfl (by kernel_rfl) (by kernel_rfl) (by kernel_rfl) (fun _ _ _ h => h) (Or.inl ⟨by rfl, ?hs14_5⟩) (by assumption) ?rs14_5
        case hs14_5 => (intro w hSw; (try dsimp only at hSw); go_simp; try with_reducible rfl)
        try simp only [List.getElem_toArray, List.getElem_cons_zero, List.getElem_cons_succ, Act.put, List.setIfInBounds_toArray, List.set_cons_zero, List.set_cons_succ]
        refine wpAnyH_take (i := 6) (v := ?vs14_6) rfl (by kernel_rfl) (by kernel_rfl) (by kernel_rfl) (fun _ _ _ h => h) (Or.inl ⟨by rfl, ?hs14_6⟩) (by assumption) ?rs14_6
        case hs14_6 => (intro w hSw; (try dsimp only at hSw); go_simp; try with_reducible rfl)
        try simp only [List.getElem_toArray, List.getElem_cons_zero, List.getElem_cons_succ, Act.put, List.setIfInBounds_toArray, List.set_cons_zero, List.set_cons_succ]
        refine wpAnyH_take (i := 7) (v := ?vs14_7) rfl (by kernel_rfl) (by kernel_rfl) (by kernel_rfl) (fun _ _ _ h => h) (Or.inl ⟨by rfl, ?hs14_7⟩) (by assumption) ?rs14_7
        case hs14_7 => (intro w hSw; (try dsimp only at hSw); go_simp; try with_reducible rfl)
        try simp only [List.getElem_toArray, List.getElem_cons_zero, List.getElem_cons_succ, Act.put, List.setIfInBounds_toArray, List.set_cons_zero, List.set_cons_succ]
        refine wpAnyH_take (i := 8) (v := ?vs14_8) rfl (by kernel_rfl) (by kernel_rfl) (by kernel_rfl) (fun _ _ _ h => h) (Or.inl ⟨by rfl, ?hs14_8⟩) (by assumption) ?rs14_8
        case hs14_8 => (intro w hSw; (try dsimp only at hSw); go_simp; try with_reducible rfl)
        try simp only [List.getElem_toArray, List.getElem_cons_zero, List.getElem_cons_succ, Act.put, List.setIfInBounds_toArray, List.set_cons_zero, List.set_cons_succ]
        refine wpAnyH_take (i := 9) (v := ?vs14_9) rfl (by kernel_rfl) (by kernel_rfl) (by kernel_rfl) (fun _ _ _ h => h) (Or.inl ⟨by rfl, ?hs14_9⟩) (by assumption) ?rs14_9
        case hs14_9 => (intro w hSw; (try dsimp only at hSw); go_simp; try with_reducible rfl)
        try simp only [List.getElem_toArray, List.getElem_cons_zero, List.getElem_cons_succ, Act.put, List.setIfInBounds_toArray, List.set_cons_zero, List.set_cons_succ]
        refine wpAnyH_take (i := 10) (v := ?vs14_10) rfl (by kernel_rfl) (by kernel_rfl) (by kernel_rfl) (fun _ _ _ h => h) (Or.inl ⟨by rfl, ?hs14_10⟩) (by assumption) ?rs14_10
        case hs14_10 => (intro w hSw; (try dsimp only at hSw); go_simp; try with_reducible rfl)
        try simp only [List.getElem_toArray, List.getElem_cons_zero, List.getElem_cons_succ, Act.put, List.setIfInBounds_toArray, List.set_cons_zero, List.set_cons_succ]
        refine wpAnyH_take (i := 11) (v := ?vs14_11) rfl (by kernel_rfl) (by kernel_rfl) (by kernel_rfl) (fun _ _ _ h => h) (Or.inl ⟨by rfl, ?hs14_11⟩) (by assumption) ?rs14_11
        case hs14_11 => (intro w hSw; (try dsimp only at hSw); go_simp; try with_reducible rfl)
        try simp only [List.getElem_toArray, List.getElem_cons_zero, List.getElem_cons_succ, Act.put, List.setIfInBounds_toArray, List.set_cons_zero, List.set_cons_succ]
        refine wpAnyH_ready (rs := [12]) (by kernel_rfl) (by simp) ?_
        refine AllReadyH.cons rfl (fun K hK => ?_) AllReadyH.nil
        go_simp
        go_wp2_with (go_at_call 54; refine (HSp.out _).mono ?_; rintro e w5 ⟨rfl, rfl⟩)
        refine hK.out _ _ trivial (fun hS => ?_)
        clear hK K
        try simp only [List.getElem_toArray, List.getElem_cons_zero, List.getElem_cons_succ, Act.put, List.setIfInBounds_toArray, List.set_cons_zero, List.set_cons_succ]
        refine wpAnyH_take (i := 13) (v := ?vs14_13) rfl (by kernel_rfl) (by kernel_rfl) (by kernel_rfl) (fun _ _ _ h => h) (Or.inl ⟨by rfl, ?hs14_13⟩) (by assumption) ?rs14_13
        case hs14_13 => (intro w hSw; (try dsimp only at hSw); go_simp; try with_reducible rfl)
        try simp only [List.getElem_toArray, List.getElem_cons_zero, List.getElem_cons_succ, Act.put, List.setIfInBounds_toArray, List.set_cons_zero, List.set_cons_succ]
        refine wpAnyH_done (by kernel_rfl) ?_ _
        go_wp2_with fail
        go_roundg n3
        case measure => have := HN3.out; have := HK.out.1; omega
        case rel => exact ⟨n3, by go_num, rfl, by omega, by rw [HN3.out]; exact HS.out, HK.out.2.2.2.drew⟩
end Go.Proofs.YtmdkpihlhdjjaaaGreatFmt
