/-
  n010_67.FnPrintEmptyFileTable: whatever the input, true.
-/
import Derived.Test.YtdfgcopelfmcmaaGreatFmtN67A
namespace Go.Proofs.YtdfgcopelfmcmaaGreatFmt
open Go.RowKit

theorem PS4_k (keep mi si fn : Bool) : (PS4 keep mi si fn).k = 0 := by cases keep <;> rfl
theorem PS4_kp (keep mi si fn : Bool) : (PS4 keep mi si fn).kp = keep := by cases keep <;> rfl

set_option maxRecDepth 100000 in
set_option maxHeartbeats 2000000 in
theorem pt_main (keep mi si fn : Bool) (w : World) : Calls Tryz.prog 3 #[.bool keep, .bool mi, .bool si, .bool fn] w fun e w' => e = .returned (.bool true) ∧ Below w.heap.size w w' := by
  have HN := Lib.hid (new4 keep mi si fn w)
  go_enter Tryz.func3, Tryz.ntmps3
  go_wp2_with (go_at_call 9; refine HN.out.mono ?_)
  rintro e w1 ⟨pb, rfl, b, tb, O, hA, hO, hu⟩
  obtain ⟨Q, HQ, HC⟩ := callsVar (empty_ok hA (by rw [PS4_k]; decide))
  have HO := Lib.hid (And.intro hO hu)
  clear hA hO hu
  go_wp2_with (go_at_call 10; refine HC.out.mono ?_)
  rintro e w2 hq
  obtain ⟨rfl, s', O', hA', hsm, hO', hu'⟩ := HQ.out e w2 hq
  clear hq
  have hmi : s'.mi = mi := hsm.2.2.2.2.2.1
  have hsi : s'.si = si := hsm.2.2.2.2.2.2.1
  have hk : s'.k ≤ 1073741824 := by rw [hsm.1, PS4_k]; decide
  have hc2 := empty_ok hA' hk
  rw [hmi, hsi] at hc2
  obtain ⟨Q2, HQ2, HC2⟩ := callsVar hc2
  have HO' := Lib.hid (And.intro hO' hu')
  clear hA' hsm hO' hu' hmi hsi hk hc2
  go_wp2_with (go_at_call 10; refine HC2.out.mono ?_)
  rintro e w3 hq
  obtain ⟨rfl, s2, O2, _, _, _, hu2⟩ := HQ2.out e w3 hq
  clear hq
  have HU2 := Lib.hid hu2
  clear hu2
  go_wp2_with fail
  go_ret
  obtain ⟨hO, hu⟩ := HO.out
  obtain ⟨hO', hu'⟩ := HO'.out
  have hz := hu.size
  have hA : Upd (fun k => w.heap.size ≤ k) w w3 := by
    refine ((hu.mono fun _ h => h.elim).trans (hu'.mono hO)).trans (HU2.out.mono fun k hk => ?_)
    rcases hO' k hk with h | h
    · exact hO k h
    · omega
  exact ⟨rfl, hA.below (fun k hk => hk) (Nat.le_refl _)⟩
end Go.Proofs.YtdfgcopelfmcmaaGreatFmt
