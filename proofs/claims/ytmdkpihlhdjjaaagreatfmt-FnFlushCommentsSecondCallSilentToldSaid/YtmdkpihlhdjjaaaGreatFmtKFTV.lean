/-
  n010_157.FnFlushCommentsSecondCallSilent: helpers of the walk.
-/
import Derived.Test.YtmdkpihlhdjjaaaGreatFmtKGrX
import Derived.Test.YtmdkpihlhdjjaaaGreatFmtKCdX
import Derived.Test.YtmdkpihlhdjjaaaGreatFmtKWdX
import Derived.Test.YtmdkpihlhdjjaaaGreatFmtKFxAX
import Derived.Test.YtmdkpihlhdjjaaaGreatFmtShelf
import GoSem.ClaimData
namespace Go.Proofs.YtmdkpihlhdjjaaaGreatFmt
open Go.RowKit Go.Shelf Go.Lib

theorem UintsRd.form {w : World} {v : Value} {L : List Nat} (h : UintsRd w v L) : ∃ ao c, v = .slice ao L.length c ∧ ∀ (j : Nat) (b : Nat), L[j]? = some b → ∃ a, ao = some a ∧ w.cell? (a.add j) = some (.int .u64 (b : Int)) := by
  rcases h with ⟨h1, h2⟩ | ⟨a, c, h1, h2, h3⟩
  · exact ⟨none, 0, by rw [h1, h2]; rfl, fun j b hj => by rw [h2] at hj; simp at hj⟩
  · exact ⟨_, _, h1, fun j b hj => ⟨a, rfl, h3 j b hj⟩⟩
theorem StrsRd.form {w : World} {v : Value} {L : List ByteArray} (h : StrsRd w v L) : ∃ ao c, v = .slice ao L.length c ∧ ∀ (j : Nat) (b : ByteArray), L[j]? = some b → ∃ a, ao = some a ∧ w.cell? (a.add j) = some (.string b) := by
  rcases h with ⟨h1, h2⟩ | ⟨a, c, h1, h2, h3⟩
  · exact ⟨none, 0, by rw [h1, h2]; rfl, fun j b hj => by rw [h2] at hj; simp at hj⟩
  · exact ⟨_, _, h1, fun j b hj => ⟨a, rfl, h3 j b hj⟩⟩

/-- strings.TrimRightFunc with unicode.IsSpace, wherever the tables lie. -/
theorem trim_ok {w0 : World} (hT : Lib.Utf8Tabs 2 3 w0) (hW : Lib.WhiteTab 0 w0) (W : World) (hb : Below w0.heap.size w0 W) (t : ByteArray) (ht : t.size ≤ 1048576) :
    Calls Tryz.prog 121 #[.string t, .func (.func 122) #[] #[]] W fun e w' => e = .returned (.string (trimB t)) ∧ Upd (fun _ => False) W w' := by
  have hp : PredGrows Tryz.prog 122 #[] Lib.isSpaceR W := fun V x hx hV => by
    have c := Tryz.unicode_IsSpace_any (x : Int) V (by omega) (by omega) (WhiteTab_below (WhiteTab_below hW hb) hV)
    rw [Lib.isSpaceZ_nat] at c
    exact c
  refine (Tryz.strings_TrimRightFunc_grows 122 #[] (enters_of Tryz.func122 (by kernel_rfl) rfl) _ t W (by omega) (Utf8Tabs_below hT hb) hp).mono ?_
  rintro e w' ⟨rfl, h⟩
  exact ⟨rfl, Upd.of_below h _⟩

theorem mem_take_succ {α : Type} {P : α → Prop} {l : List α} {j : Nat} (hj : j < l.length) (h : ∀ t ∈ l.take j, P t) (h2 : P l[j]) : ∀ t ∈ l.take (j + 1), P t := fun t ht => by
  rw [List.take_succ_eq_append_getElem hj, List.mem_append, List.mem_singleton] at ht
  rcases ht with ht | ht
  · exact h t ht
  · rw [ht]; exact h2

set_option maxRecDepth 100000 in
set_option maxHeartbeats 4000000 in
theorem ft_zb {w : World} {lv tv : Value} {L : List Nat} {Tx : List ByteArray} (hL : UintsRd w lv L) (hT : StrsRd w tv Tx) (hm1 : L.length ≤ maxLen) (hm2 : Tx.length ≤ maxLen) (y2 y3 y4 y5 y6 y7 y8 y9 y10 y11 : Value) :
    Calls Tryz.prog 13 #[lv, tv, y2, y3, y4, y5, y6, y7, y8, y9, y10, y11] w fun e w' => ∃ r : Bool, e = .returned (.bool r) ∧ w = w' ∧ (r = true → L.length ≤ 1048576 ∧ Tx.length ≤ 1048576 ∧ ∀ t ∈ Tx, t.size ≤ 1048576) := by
  unfold maxLen at hm1 hm2
  obtain ⟨ao, c, rfl, _⟩ := hL.form
  obtain ⟨bo, d, rfl, hcell⟩ := hT.form
  clear hL hT
  obtain ⟨n, hn⟩ : ∃ n, n = L.length := ⟨_, rfl⟩
  obtain ⟨m, hm⟩ : ∃ m, m = Tx.length := ⟨_, rfl⟩
  rw [← hn, ← hm]
  have hnI : (n : Int) ≤ 9223372036854775807 := by omega
  have hmI : (m : Int) ≤ 9223372036854775807 := by omega
  clear hm1 hm2
  by_cases h1 : 1048576 < n
  · have h1I : (1048576 : Int) < (n : Int) := by omega
    clear h1 hn hm hcell
    go_enter Tryz.func13, Tryz.ntmps13
    go_wp2_with fail
    go_ret
    exact ⟨false, rfl, rfl, fun h => by cases h⟩
  have h1I : (n : Int) ≤ 1048576 := by omega
  by_cases h2 : 1048576 < m
  · have h2I : (1048576 : Int) < (m : Int) := by omega
    clear h1 h2 hn hm hcell
    go_enter Tryz.func13, Tryz.ntmps13
    go_wp2_with fail
    go_ret
    exact ⟨false, rfl, rfl, fun h => by cases h⟩
  have h2I : (m : Int) ≤ 1048576 := by omega
  by_cases h3 : 1048576 < n + m
  · have h3I : (1048576 : Int) < (n : Int) + (m : Int) := by omega
    clear h1 h2 h3 hn hm hcell
    go_enter Tryz.func13, Tryz.ntmps13
    go_wp2_with fail
    go_ret
    exact ⟨false, rfl, rfl, fun h => by cases h⟩
  have h3I : (n : Int) + (m : Int) ≤ 1048576 := by omega
  have HC := Lib.hid (And.intro hcell (And.intro hn (And.intro hm (And.intro h1 (And.intro h2 h3)))))
  clear hcell hn hm h1 h2 h3
  go_enter Tryz.func13, Tryz.ntmps13
  go_wp2_with fail
  go_loopg [25, 26] m (fun k v25 v26 wr => ∃ j z : Nat, v25 = .int .i64 (z : Int) ∧ v26 = .int .i64 (j : Int) ∧ j + k = m ∧ w = wr ∧ z ≤ 1048576 ∧ ∀ t ∈ Tx.take j, t.size ≤ 1048576)
  case atStart => exact ⟨0, n + m, by go_num, rfl, by omega, rfl, by have := HC.out; omega, by simp⟩
  case round =>
    obtain ⟨j, z, rfl, rfl, hjk, rfl, hz, hall⟩ := hrel
    have hzI : (z : Int) ≤ 1048576 := by omega
    have HJ := Lib.hid (And.intro hjk (And.intro hz hall))
    clear hjk hz hall
    by_cases hlt : j < m
    · have hltI : (j : Int) < (m : Int) := by omega
      have hj : j < Tx.length := by have := HC.out.2.2.1; omega
      obtain ⟨s, hsj⟩ : ∃ s, Tx[j]'hj = s := ⟨_, rfl⟩
      obtain ⟨a, rfl, c1⟩ := HC.out.1 j s (by rw [List.getElem?_eq_getElem hj, hsj])
      have HS := Lib.hid hsj
      clear hsj
      by_cases hs1 : s.size ≤ 1048576
      · have hs1I : (s.size : Int) ≤ 1048576 := by omega
        by_cases hs2 : z + s.size ≤ 1048576
        · have hs2I : (z : Int) + (s.size : Int) ≤ 1048576 := by omega
          have H2 := Lib.hid (And.intro hs1 hs2)
          clear hs1 hs2
          go_wp2_with fail
          go_roundg (m - (j + 1))
          case measure => have := HJ.out.1; omega
          case rel => exact ⟨j + 1, z + s.size, by go_num, by go_num, by have := HJ.out.1; omega, rfl, H2.out.2, mem_take_succ hj HJ.out.2.2 (by rw [HS.out]; exact H2.out.1)⟩
        · have hs2I : (1048576 : Int) < (z : Int) + (s.size : Int) := by omega
          clear hs1 hs2
          go_wp2_with fail
          go_ret
          exact ⟨false, rfl, rfl, fun h => by cases h⟩
      · have hs1I : (1048576 : Int) < (s.size : Int) := by omega
        clear hs1
        go_wp2_with fail
        go_ret
        exact ⟨false, rfl, rfl, fun h => by cases h⟩
    · obtain rfl : j = m := by have := HJ.out.1; omega
      have HF : RowKit.Hid (n ≤ 1048576 ∧ j ≤ 1048576 ∧ ∀ t ∈ Tx, t.size ≤ 1048576) := Lib.hid ⟨by have := HC.out; omega, by have := HC.out; omega, by
        have h1 := HJ.out.2.2
        rw [HC.out.2.2.1, List.take_length] at h1
        exact h1⟩
      go_wp2_with fail
      go_ret
      exact ⟨true, rfl, rfl, fun _ => HF.out⟩

/-- What zzBadComments lets through. -/
def FtOk (L : List Nat) (Tx : List ByteArray) (k lv : Nat) : Prop := L.length ≤ 4096 ∧ Tx.length ≤ 4096 ∧ (k ≤ 1024 ∧ lv ≤ 1024 ∧ k * lv ≤ 65536) ∧ ∀ b ∈ L.take (min L.length Tx.length), b ≤ 262143

set_option maxRecDepth 100000 in
set_option maxHeartbeats 8000000 in
theorem ft_bad {w : World} {lv tv : Value} {L : List Nat} {Tx : List ByteArray} (hL : UintsRd w lv L) (hT : StrsRd w tv Tx) (hm1 : L.length ≤ 1048576) (hm2 : Tx.length ≤ 1048576) (hs : ∀ t ∈ Tx, t.size ≤ 1048576) (k lvl : Nat) :
    Calls Tryz.prog 14 #[lv, tv, .int .u64 (k : Int), .int .u64 (lvl : Int)] w fun e w' => ∃ r : Bool, e = .returned (.bool r) ∧ w = w' ∧ (r = false → FtOk L Tx k lvl) := by
  obtain ⟨ao, c, rfl, hcl⟩ := hL.form
  obtain ⟨bo, d, rfl, hct⟩ := hT.form
  clear hL hT
  obtain ⟨n, hn⟩ : ∃ n, n = L.length := ⟨_, rfl⟩
  obtain ⟨m, hm⟩ : ∃ m, m = Tx.length := ⟨_, rfl⟩
  rw [← hn, ← hm]
  have hnI : (n : Int) ≤ 1048576 := by omega
  have hmI : (m : Int) ≤ 1048576 := by omega
  clear hm1 hm2
  have hcount := fun W => fc_count ao bo n c m d W
  have hbi := zz_badIndent k lvl
  by_cases h1 : 4096 < n
  · have h1I : (4096 : Int) < (n : Int) := by omega
    clear h1 hn hm hcl hct hs hcount hbi
    go_enter Tryz.func14, Tryz.ntmps14
    go_wp2_with fail
    go_ret
    exact ⟨true, rfl, rfl, fun h => by cases h⟩
  have h1I : (n : Int) ≤ 4096 := by omega
  by_cases h2 : 4096 < m
  · have h2I : (4096 : Int) < (m : Int) := by omega
    clear h1 h2 hn hm hcl hct hs hcount hbi
    go_enter Tryz.func14, Tryz.ntmps14
    go_wp2_with fail
    go_ret
    exact ⟨true, rfl, rfl, fun h => by cases h⟩
  have h2I : (m : Int) ≤ 4096 := by omega
  obtain ⟨q, hq⟩ : ∃ q, q = min n m := ⟨_, rfl⟩
  rw [← hq] at hcount
  have hqI : (q : Int) ≤ 4096 := by omega
  have hwq : IntKind.u64.wrap (q : Int) = (q : Int) := by rw [IntKind.wrap_u64]; omega
  have HC := Lib.hid (And.intro hcl (And.intro hct (And.intro hn (And.intro hm (And.intro hq (And.intro hs (And.intro h1 h2)))))))
  have HCo := Lib.hid hcount
  have HBi := Lib.hid hbi
  clear hcl hct hn hm h1 h2 hq hs hcount hbi
  go_enter Tryz.func14, Tryz.ntmps14
  go_wp2_with fail
  go_loopg [9, 10] m (fun k' v9 v10 wr => ∃ j z : Nat, v9 = .int .i64 (z : Int) ∧ v10 = .int .i64 (j : Int) ∧ j + k' = m ∧ w = wr ∧ z ≤ 65536 + j * 1048576)
  case atStart => exact ⟨0, 8 * n + 8 * m, by go_num, rfl, by omega, rfl, by omega⟩
  case round =>
  obtain ⟨j, z, rfl, rfl, hjk, rfl, hz⟩ := hrel
  have hzI : (z : Int) ≤ 4295032832 := by omega
  have HJ := Lib.hid (And.intro hjk hz)
  clear hjk hz
  by_cases hlt : j < m
  · have hltI : (j : Int) < (m : Int) := by omega
    have hj : j < Tx.length := by have := HC.out.2.2.2.1; omega
    obtain ⟨s, hsj⟩ : ∃ s, Tx[j]'hj = s := ⟨_, rfl⟩
    obtain ⟨a, rfl, c1⟩ := HC.out.2.1 j s (by rw [List.getElem?_eq_getElem hj, hsj])
    have hsz : s.size ≤ 1048576 := HC.out.2.2.2.2.2.1 s (hsj ▸ List.getElem_mem _)
    have hszI : (s.size : Int) ≤ 1048576 := by omega
    have HS := Lib.hid hsz
    clear hsj hsz
    go_wp2_with fail
    go_roundg (m - (j + 1))
    case measure => have := HJ.out.1; omega
    case rel => exact ⟨j + 1, z + s.size, by go_num, by go_num, by have := HJ.out.1; omega, rfl, by have := HJ.out.2; have := HS.out; omega⟩
  obtain rfl : j = m := by have := HJ.out.1; omega
  clear HJ
  by_cases h3 : 1048576 < z
  · have h3I : (1048576 : Int) < (z : Int) := by omega
    clear h3
    go_wp2_with fail
    go_ret
    exact ⟨true, rfl, rfl, fun h => by cases h⟩
  have h3I : (z : Int) ≤ 1048576 := by omega
  clear h3
  by_cases hb : 1024 < k ∨ 1024 < lvl ∨ 65536 < k * lvl
  · have hbi := HBi.out
    simp only [hb, decide_true] at hbi
    have HB2 := Lib.hid hbi
    clear hbi hb
    go_wp2_with (go_at_call 49; refine (HB2.out _).mono ?_; rintro e w1 ⟨rfl, hw⟩; obtain rfl := hw.symm)
    go_ret
    exact ⟨true, rfl, rfl, fun h => by cases h⟩
  have hbi := HBi.out
  simp only [hb, decide_false] at hbi
  have HB2 := Lib.hid hbi
  have hbb : k ≤ 1024 ∧ lvl ≤ 1024 ∧ k * lvl ≤ 65536 := by omega
  obtain ⟨p, hp⟩ : ∃ p, p = k * lvl := ⟨_, rfl⟩
  obtain ⟨pq, hpq⟩ : ∃ pq, pq = p * q := ⟨_, rfl⟩
  have hpb : p ≤ 65536 := by omega
  have hqb : q ≤ 4096 := by omega
  have hpqb : pq ≤ 268435456 := by rw [hpq]; exact Nat.le_trans (Nat.mul_le_mul hpb hqb) (by decide)
  have hmul : IntKind.u64.wrap ((k : Int) * (lvl : Int)) = (p : Int) := by
    rw [hp, IntKind.wrap_u64, Int.natCast_mul]
    have h1 : (k : Int) * (lvl : Int) ≤ 1048576 := by rw [← Int.natCast_mul]; omega
    have h2 : 0 ≤ (k : Int) * (lvl : Int) := by rw [← Int.natCast_mul]; omega
    omega
  have hmul2 : IntKind.u64.wrap ((p : Int) * (q : Int)) = (pq : Int) := by
    rw [hpq, IntKind.wrap_u64, Int.natCast_mul]
    have h1 : (p : Int) * (q : Int) ≤ 268435456 := by rw [← Int.natCast_mul]; omega
    have h2 : 0 ≤ (p : Int) * (q : Int) := by rw [← Int.natCast_mul]; omega
    omega
  have HBB := Lib.hid hbb
  clear hbi hb hbb hp hpq hpb hqb
  by_cases h4 : 4194304 < pq
  · have h4I : (4194304 : Int) < (pq : Int) := by omega
    clear h4 hpqb
    go_wp2_with (first | (go_at_call 49; refine (HB2.out _).mono ?_; rintro e w1 ⟨rfl, hw⟩; obtain rfl := hw.symm) | (go_at_call 19; refine (HCo.out _).mono ?_; rintro e w1 ⟨rfl, rfl⟩))
    go_ret
    exact ⟨true, rfl, rfl, fun h => by cases h⟩
  have h4I : (pq : Int) ≤ 4194304 := by omega
  clear h4 hpqb
  go_wp2_with (first | (go_at_call 49; refine (HB2.out _).mono ?_; rintro e w1 ⟨rfl, hw⟩; obtain rfl := hw.symm) | (go_at_call 19; refine (HCo.out _).mono ?_; rintro e w1 ⟨rfl, rfl⟩))
  go_loopg [12] q (fun k' v12 wr => ∃ i : Nat, v12 = .int .i64 (i : Int) ∧ i + k' = q ∧ w = wr ∧ ∀ b ∈ L.take i, b ≤ 262143)
  case atStart => exact ⟨0, rfl, by omega, rfl, by simp⟩
  case round =>
  obtain ⟨i, rfl, hik, rfl, hall⟩ := hrel
  have HI := Lib.hid (And.intro hik hall)
  clear hik hall
  by_cases hlt2 : i < q
  · have hltI : (i : Int) < (q : Int) := by omega
    have hj : i < L.length := by have := HC.out.2.2.1; have := HC.out.2.2.2.2.1; omega
    have hinI : (i : Int) < (n : Int) := by have := HC.out.2.2.1; omega
    obtain ⟨b, hbj⟩ : ∃ b, L[i]'hj = b := ⟨_, rfl⟩
    obtain ⟨a, rfl, c1⟩ := HC.out.1 i b (by rw [List.getElem?_eq_getElem hj, hbj])
    have HS := Lib.hid hbj
    clear hbj hlt hlt2
    by_cases hb1 : b ≤ 262143
    · have hb1I : (b : Int) ≤ 262143 := by omega
      have H2 := Lib.hid hb1
      clear hb1
      go_wp2_with fail
      go_roundg (q - (i + 1))
      case measure => have := HI.out.1; omega
      case rel => exact ⟨i + 1, by go_num, by have := HI.out.1; omega, rfl, mem_take_succ hj HI.out.2 (by rw [HS.out]; exact H2.out)⟩
    · have hb1I : (262143 : Int) < (b : Int) := by omega
      clear hb1
      go_wp2_with fail
      go_ret
      exact ⟨true, rfl, rfl, fun h => by cases h⟩
  · obtain rfl : i = q := by have := HI.out.1; omega
    have HF : RowKit.Hid (FtOk L Tx k lvl) := Lib.hid (by
      have h1 := HC.out
      refine ⟨by omega, by omega, HBB.out, ?_⟩
      rw [← h1.2.2.1, ← h1.2.2.2.1, ← h1.2.2.2.2.1]
      exact HI.out.2)
    clear hlt hlt2
    go_wp2_with fail
    go_ret
    exact ⟨false, rfl, rfl, fun _ => HF.out⟩
end Go.Proofs.YtmdkpihlhdjjaaaGreatFmt
