/-
  Positions: NewPos.
-/
import Derived.Test.YtjljnfmacechfaaGreatFmtWdA
import Derived.Laws.BitsAllLaws
namespace Go.Proofs.YtjljnfmacechfaaGreatFmt
open Go.RowKit

/-- The line that a position holds, and how it holds it. -/
def clampL (line : Nat) : Nat := if 262143 < line then 0 else line
def lcP (line : Nat) : Nat := clampL line * 16384 + 1
theorem clampL_le (line : Nat) : clampL line ≤ 262143 := by unfold clampL; split <;> omega
theorem lcP_lt (line : Nat) : lcP line < 4294967296 := by have := clampL_le line; unfold lcP; omega
theorem lcP_line (line : Nat) : lcP line / 16384 = clampL line := by unfold lcP; omega

set_option maxRecDepth 100000 in
set_option maxHeartbeats 1000000 in
theorem new_pos (o line : Nat) (ho : o ≤ 4294967284) (w : World) : Calls Tryz.prog 13 #[.int .u64 (o : Int), .int .u64 (line : Int), .int .u64 1] w fun e w' => e = .returned (posV o (lcP line)) ∧ Upd (fun _ => False) w w' := by
  have hmin : min (o : Int) 4294967284 = (o : Int) := by omega
  have hwo : IntKind.u32.wrap (o : Int) = (o : Int) := by rw [IntKind.wrap_u32]; omega
  by_cases hl : 262143 < line
  · have hlI : (262143 : Int) < (line : Int) := by omega
    have e : lcP line = 1 := by simp [lcP, clampL, hl]
    rw [e]
    have hb : bits .or .u32 0 1 = 1 := by kernel_rfl
    clear hl e
    go_enter Tryz.func13, Tryz.ntmps13
    go_wp2
    refine bodyPost_ret (results_cell_row rfl _ _ w.heap.size _ _ (0, 0) _ rfl (heap_alloc_new w _) Tryz.underlying45 rfl (by kernel_rfl)) rfl ?_
    exact ⟨rfl, (Upd.refl _ w).alloc _⟩
  · have hlI : ¬ (262143 : Int) < (line : Int) := by omega
    have e : lcP line = line * 16384 + 1 := by simp [lcP, clampL, hl]
    rw [e]
    have hwl : IntKind.u32.wrap (line : Int) = (line : Int) := by rw [IntKind.wrap_u32]; omega
    have hb : bits .or .u32 ((line : Int) * 16384) 1 = ((line * 16384 + 1 : Nat) : Int) := by
      have h1 := u32_or_nat (line * 16384) 1 (by omega) (by omega)
      rw [nat_join 14 (line * 16384) 1 (by omega) (by omega)] at h1
      rw [← h1]
      simp
    clear hl e
    go_enter Tryz.func13, Tryz.ntmps13
    go_wp2
    refine bodyPost_ret (results_cell_row rfl _ _ w.heap.size _ _ (0, 0) _ rfl (heap_alloc_new w _) Tryz.underlying45 rfl (by kernel_rfl)) rfl ?_
    exact ⟨by simp [posV], (Upd.refl _ w).alloc _⟩

end Go.Proofs.YtjljnfmacechfaaGreatFmt
