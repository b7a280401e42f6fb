/-
  n010_157.FnClosingParenSpacingTable: the plain law (no program in sight).
-/
import Derived.Test.YtjljnfmacechfaaGreatFmtCc
namespace Go.Proofs.YtjljnfmacechfaaGreatFmt
open Go.RowKit

/-- What zzIndent puts behind. -/
def pIndent (mi : Bool) (k lv : Nat) : List UInt8 := if mi || decide (lv = 0) then [] else if k = 0 then [255] ++ List.replicate lv 9 ++ [255] else List.replicate (k * lv) 32
/-- What zzBreak puts behind. -/
def pBreak (mi : Bool) (k lv n L : Nat) : List UInt8 := [10] ++ (if decide (n + 1 < L) && !mi then [10] else []) ++ pIndent mi k lv
/-- zzParenModel's four answers. -/
def pParen (mi si fl mn : Bool) (k lv n L : Nat) : List UInt8 × Nat × Bool × Bool :=
  if mi then ([41], n, fl, mn) else if fl then ([41], n, false, mn) else if mn || (!si && decide (n < L)) then (pBreak false k lv n L ++ [41], max n L, false, false) else ([41], n, false, mn)

theorem pIndent_eq (v : VS) : pIndent v.mi v.k v.lv = mIndent v := by
  unfold pIndent mIndent
  cases v.mi
  · by_cases h : v.lv = 0 <;> simp [h]
  · simp

/-- rightParen's text and state are the model's four answers. -/
theorem pParen_eq (mi si fl mn : Bool) (ws k lv n L : Nat) :
    mRp (stVS mi si fl mn false false ws k lv n) L ++ [41] = (pParen mi si fl mn k lv n L).1 ∧ (sRp (stVS mi si fl mn false false ws k lv n) L).ln = (pParen mi si fl mn k lv n L).2.1 ∧
      (sRp (stVS mi si fl mn false false ws k lv n) L).fl = (pParen mi si fl mn k lv n L).2.2.1 ∧ (sRp (stVS mi si fl mn false false ws k lv n) L).mn = (pParen mi si fl mn k lv n L).2.2.2 ∧ (sRp (stVS mi si fl mn false false ws k lv n) L).ws = 1 := by
  refine ⟨?_, ?_, ?_, ?_, sRp_ws1 _ _⟩ <;> unfold pParen
  · unfold mRp mNls
    have hI := pIndent_eq (stVS mi si fl mn false false ws k lv n)
    cases mi <;> cases fl <;> simp [stVS, wantsN] at hI ⊢
    all_goals (cases mn <;> cases si <;> simp [pBreak, ← hI])
    all_goals (try (by_cases h : n < L <;> by_cases h2 : n + 1 < L <;> simp [h, h2]))
  · unfold sRp sNls sIndent sNl
    cases mi <;> cases fl <;> simp [stVS, wantsN]
    all_goals (cases mn <;> cases si <;> simp)
    all_goals (by_cases h : n < L <;> simp [h])
  · unfold sRp sNls sIndent sNl
    cases mi <;> cases fl <;> simp [stVS, wantsN]
    all_goals (cases mn <;> cases si <;> simp)
    all_goals (by_cases h : n < L <;> simp [h])
  · unfold sRp sNls sIndent sNl
    cases mi <;> cases fl <;> simp [stVS, wantsN]
    all_goals (cases mn <;> cases si <;> simp)
    all_goals (by_cases h : n < L <;> simp [h])

theorem pBreak_len (k lv n L : Nat) (hkl : k * lv ≤ 65536) (hlv : lv ≤ 65536) : (pBreak false k lv n L).length ≤ 70000 := by
  unfold pBreak pIndent
  split <;> split <;> simp <;> (try split) <;> simp <;> omega
theorem pParen_break (si mn : Bool) (k lv n L : Nat) (hbr : mn = true ∨ (si = false ∧ n < L)) : pParen false si false mn k lv n L = (pBreak false k lv n L ++ [41], max n L, false, false) := by
  unfold pParen
  rcases hbr with h | ⟨h1, h2⟩
  · simp [h]
  · simp [h1, h2]
theorem pParen_plain (si : Bool) (k lv n L : Nat) (hbr : ¬ (false = true ∨ (si = false ∧ n < L))) : pParen false si false false k lv n L = ([41], n, false, false) := by
  unfold pParen
  have h : (false || (!si && decide (n < L))) = false := by
    cases si
    · simp only [Bool.not_false, Bool.true_and, Bool.false_or, decide_eq_false_iff_not]
      exact fun h => hbr (.inr ⟨rfl, h⟩)
    · rfl
  simp [h]
end Go.Proofs.YtjljnfmacechfaaGreatFmt
