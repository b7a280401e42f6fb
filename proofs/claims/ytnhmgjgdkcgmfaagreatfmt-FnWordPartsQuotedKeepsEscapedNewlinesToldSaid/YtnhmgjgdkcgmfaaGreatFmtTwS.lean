/-
  Slicing the collected text, whatever its slice is.
-/
import Derived.Test.YtnhmgjgdkcgmfaaGreatFmtTwC
namespace Go.Proofs.YtnhmgjgdkcgmfaaGreatFmt
open Go.RowKit

theorem sliceRd_empty {w : World} {F : Nat → Prop} {ao : Option Addr} {c : Nat} (h : ao = none → c = 0) : SliceRd w F (.slice ao 0 c) [] := by
  cases ao with
  | none => rw [h rfl]; exact .inl ⟨rfl, rfl⟩
  | some a => exact .inr ⟨a, c, rfl, fun h => absurd rfl h, fun j u hj => by simp at hj⟩

/-- The slices [0:n] and [n:n] of a text of n bytes. -/
theorem row_slices {w : World} {vb : Value} {t : List UInt8} (h : Row w vb t) : ∃ vT vE, (∀ W : World, (Instr.slice 33 vb (some (.int .i64 0)) (some (.int .i64 (t.length : Int))) none).run Tryz.prog W = .ok vT W) ∧
    (∀ W : World, (Instr.slice 33 vb (some (.int .i64 (t.length : Int))) (some (.int .i64 (t.length : Int))) none).run Tryz.prog W = .ok vE W) ∧
    (∀ (W : World) (F : Nat → Prop), Row W vb t → (∀ k, vb.ownBlock = some k → ¬ F k) → SliceRd W F vT t) ∧ (∀ (W : World) (F : Nat → Prop), SliceRd W F vE []) := by
  have hT := Tryz.underlying33
  rcases h.2 with ⟨rfl, h0⟩ | ⟨g, cap, cur, rfl, _, hg, hnc, hcm, _, _⟩
  · obtain rfl := List.length_eq_zero_iff.1 h0
    refine ⟨.slice none 0 0, .slice none 0 0, fun W => ?_, fun W => ?_, fun W F hr hF => .inl ⟨rfl, rfl⟩, fun W F => .inl ⟨rfl, rfl⟩⟩
    · simp [Instr.slice, run_underlying hT, go_sem]
    · simp [Instr.slice, run_underlying hT, go_sem]
  · have h1 : (t.length : Int) ≤ (cap : Int) := by omega
    have h2 : (0 : Int) ≤ (t.length : Int) := by omega
    refine ⟨.slice (some ⟨g, 0, none⟩) t.length cap, .slice (some (if cap = t.length then ⟨g, 0, none⟩ else ⟨g, t.length, none⟩)) 0 (cap - t.length), fun W => ?_, fun W => ?_, fun W F hr hF => ?_, fun W F => sliceRd_empty (fun h => by cases h)⟩
    · simp [Instr.slice, run_underlying hT, go_sem, h1, h2]
    · simp [Instr.slice, run_underlying hT, go_sem, h1, h2]
      split <;> rfl
    · exact hr.rd F hF
end Go.Proofs.YtnhmgjgdkcgmfaaGreatFmt
