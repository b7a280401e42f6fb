/-
  tabwriter.Writer: format, without columns; reset.
-/
import Derived.Test.YtmopcbjmeepinaaGreatFmtRRRTwG
namespace Go.Proofs.YtmopcbjmeepinaaGreatFmtRRR
open Go.RowKit

set_option maxRecDepth 100000 in
set_option maxHeartbeats 4000000 in
/-- format where no line has two cells: writeLines of all lines. -/
theorem tw_format {S : Sink} {tb : Nat} {w : World} {G Fs : Nat → Prop} {inner t : List UInt8} {twd fg pos cs : Nat} {cw : Int} {ht : Bool} {nl : Nat} {c0 : List TCell} {R : World → Prop} {p : Int}
    (h : TwAt S tb w G Fs inner t twd fg pos cs cw ht nl c0) (hc : c0.length ≤ 1) (hnl : nl = 1 ∨ nl = 2)
    (hwl : Calls Tryz.prog 204 #[.pointer (some ⟨tb, 0, none⟩), .int .i64 0, .int .i64 0, .int .i64 (nl : Int)] w fun e w' => e = .returned (.int .i64 p) ∧ R w') :
    Calls Tryz.prog 194 #[.pointer (some ⟨tb, 0, none⟩), .int .i64 0, .int .i64 0, .int .i64 (nl : Int)] w fun e w' => e = .returned (.int .i64 p) ∧ R w' := by
  obtain ⟨vb, vl, aw, cap, hb, hr, hvb, ⟨L, capL, cur, v0, rfl, hL, hcs, hnc, hc1, hcm, hGL, h0, ho0, hG0, hrest, h1⟩, hI, hFt, hGt, hGF, hGl, hfg⟩ := h
  obtain ⟨a0, p0, rfl⟩ : ∃ ao c, v0 = .slice ao c0.length c := by
    rcases ho0.2 with ⟨h1, h2⟩ | ⟨g, cap, cur, h1, _, _, h2, _⟩
    · exact ⟨none, 0, by rw [h2]; exact h1⟩
    · exact ⟨_, _, h1⟩
  have c19 : w.cell? ⟨tb, 19, none⟩ = some (.slice (some ⟨L, 0, none⟩) nl capL) := cell_at hb 19
  have c20 : w.cell? ⟨tb, 20, none⟩ = some (.slice aw 0 cap) := cell_at hb 20
  have hlines : ∀ j, j < nl → ∃ ao n c, w.cell? ⟨L, j, none⟩ = some (.slice ao n c) ∧ (n = 0 ∨ n = 1) := fun j hj => by
    by_cases hj0 : j = 0
    · subst hj0
      exact ⟨a0, c0.length, p0, by rw [cell_at hL]; exact h0, by omega⟩
    · obtain rfl : j = 1 := by omega
      obtain ⟨a1, p1, hv1⟩ := h1 (by omega)
      exact ⟨a1, 0, p1, by rw [cell_at hL]; exact hv1, .inl rfl⟩
  have HLines := Lib.hid hlines
  have hnI : (nl : Int) ≤ 2 := by omega
  have HN := Lib.hid hnl
  have HWL := Lib.hid hwl
  clear hlines hwl hb hr hvb hL hcs hnc hc1 hcm hGL h0 ho0 hG0 hrest h1 hI hFt hGt hGF hGl hfg hc hnl
  go_enter Tryz.func194, Tryz.ntmps194
  go_wp2_with fail
  go_loopg [2, 8, 10] nl (fun k v2 v8 v10 wr => ∃ j : Nat, v2 = .int .i64 0 ∧ v8 = .int .i64 0 ∧ v10 = .int .i64 (j : Int) ∧ j + k = nl ∧ w = wr)
  case atStart => exact ⟨0, rfl, rfl, rfl, by omega, rfl⟩
  case round =>
    obtain ⟨j, rfl, rfl, rfl, hjk, rfl⟩ := hrel
    have HJ := Lib.hid hjk; clear hjk
    by_cases hlt : j < nl
    · obtain ⟨ao, n, c, cLj, hn⟩ := HLines.out j hlt
      have hltI : (j : Int) < (nl : Int) := by omega
      rcases hn with rfl | rfl
      · go_wp2_with fail
        go_roundg (nl - (j + 1))
        case measure => have := HJ.out; omega
        case rel => exact ⟨j + 1, rfl, rfl, by go_num, by omega, rfl⟩
      · go_wp2_with fail
        go_roundg (nl - (j + 1))
        case measure => have := HJ.out; omega
        case rel => exact ⟨j + 1, rfl, rfl, by go_num, by omega, rfl⟩
    · have hltI : ¬ (j : Int) < (nl : Int) := by omega
      go_wp2_with (go_at_call 204; refine HWL.out.mono ?_; rintro e w2 ⟨rfl, hR⟩; have HR := Lib.hid hR; clear hR)
      go_ret
      exact ⟨rfl, HR.out⟩
end Go.Proofs.YtmopcbjmeepinaaGreatFmtRRR
