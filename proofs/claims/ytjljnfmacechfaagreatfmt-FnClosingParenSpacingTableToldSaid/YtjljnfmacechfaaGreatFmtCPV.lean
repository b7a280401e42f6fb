/-
  n010_157.FnClosingParenSpacingTable: helpers of the walk.
-/
import Derived.Test.YtjljnfmacechfaaGreatFmtCp
import Derived.Test.YtjljnfmacechfaaGreatFmtCt
import Derived.Test.YtjljnfmacechfaaGreatFmtCe
import GoSem.ClaimData
namespace Go.Proofs.YtjljnfmacechfaaGreatFmt
open Go.RowKit

theorem KsRd.quiet {w w' : World} {v : Value} {ks : List Nat} (h : KsRd w v ks) (hu : Upd (fun _ => False) w w') : KsRd w' v ks := by
  rcases h with h | ⟨a, c, h1, h2, h3⟩
  · exact .inl h
  · exact .inr ⟨a, c, h1, h2, fun j k hj => hu.cell (h3 j k hj) fun h => h⟩

set_option maxRecDepth 100000 in
set_option maxHeartbeats 2000000 in
theorem cp_zb (ao : Option Addr) (n c : Nat) (i1 : Int) (mi si fl mn : Bool) (k6 k7 k8 k9 k10 k11 : Nat) (hn : n ≤ maxLen) (w : World) :
    Calls Tryz.prog 4 #[.slice ao n c, .int .i64 i1, .bool mi, .bool si, .bool fl, .bool mn, .int .u8 (k6 : Int), .int .u64 (k7 : Int), .int .u64 (k8 : Int), .int .u64 (k9 : Int), .int .u64 (k10 : Int), .int .u64 (k11 : Int)] w fun e w' => e = .returned (.bool (decide (n ≤ 1048576))) ∧ w = w' := by
  unfold maxLen at hn
  by_cases h : n ≤ 1048576
  · have hI : (n : Int) ≤ 1048576 := by omega
    have e : decide (n ≤ 1048576) = true := by simp [h]
    rw [e]
    clear h e hn
    go_enter Tryz.func4, Tryz.ntmps4
    go_wp2_with fail
    go_ret
    exact ⟨rfl, rfl⟩
  · have hI : (1048576 : Int) < (n : Int) := by omega
    have hnI : (n : Int) ≤ 9223372036854775807 := by omega
    have e : decide (n ≤ 1048576) = false := by simp [h]
    rw [e]
    clear h e hn
    go_enter Tryz.func4, Tryz.ntmps4
    go_wp2_with fail
    go_ret
    exact ⟨rfl, rfl⟩

theorem cp_text {v : VS} {ks : List Nat} {nl o c : Nat} {r : Bool} (h : (decide (nl = 0) && endKs ks && (v.si || decide (o = c))) = r) : clT v ks nl o c = (if r then [32] else []) ++ (mRp v c ++ [41]) := by
  unfold clT
  rw [h, List.append_assoc]
end Go.Proofs.YtjljnfmacechfaaGreatFmt
