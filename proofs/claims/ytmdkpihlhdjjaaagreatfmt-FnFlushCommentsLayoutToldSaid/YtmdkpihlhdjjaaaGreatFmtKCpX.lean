/-
  n010_157.FnClosingParenSpacingTable: the plain law (no program in sight).
  n010_157's own helpers over rows of bytes: zzRep, zzIndent, zzBreak .
-/
import Derived.Test.YtmdkpihlhdjjaaaGreatFmtKCc
import Derived.Test.YtmdkpihlhdjjaaaGreatFmtKMaX
namespace Go.Proofs.YtmdkpihlhdjjaaaGreatFmt
open Go.RowKit

/-- What zzIndent puts behind. -/
def pIndent (mi : Bool) (k lv : Nat) : List UInt8 := if mi || decide (lv = 0) then [] else if k = 0 then [255] ++ List.replicate lv 9 ++ [255] else List.replicate (k * lv) 32
/-- What zzBreak puts behind. -/
def pBreak (mi : Bool) (k lv n L : Nat) : List UInt8 := [10] ++ (if decide (n + 1 < L) && !mi then [10] else []) ++ pIndent mi k lv
/-- zzParenModel's four answers. -/
def pParen (mi si fl mn : Bool) (k lv n L : Nat) : List UInt8 × Nat × Bool × Bool :=
  if mi then ([41], n, fl, mn) else if fl then ([41], n, false, mn) else if mn || (!si && decide (n < L)) then (pBreak false k lv n L ++ [41], max n L, false, false) else ([41], n, false, mn)

theorem pIndent_eq (v : VS) : pIndent v.mi v.k v.lv = mIndent v := by
  unfold pIndent mIndent
  cases v.mi
  · by_cases h : v.lv = 0 <;> simp [h]
  · simp

/-- rightParen's text and state are the model's four answers. -/
theorem pParen_eq (mi si fl mn : Bool) (ws k lv n L : Nat) :
    mRp (stVS mi si fl mn false false ws k lv n) L ++ [41] = (pParen mi si fl mn k lv n L).1 ∧ (sRp (stVS mi si fl mn false false ws k lv n) L).ln = (pParen mi si fl mn k lv n L).2.1 ∧
      (sRp (stVS mi si fl mn false false ws k lv n) L).fl = (pParen mi si fl mn k lv n L).2.2.1 ∧ (sRp (stVS mi si fl mn false false ws k lv n) L).mn = (pParen mi si fl mn k lv n L).2.2.2 ∧ (sRp (stVS mi si fl mn false false ws k lv n) L).ws = 1 := by
  refine ⟨?_, ?_, ?_, ?_, sRp_ws1 _ _⟩ <;> unfold pParen
  · unfold mRp mNls
    have hI := pIndent_eq (stVS mi si fl mn false false ws k lv n)
    cases mi <;> cases fl <;> simp [stVS, wantsN] at hI ⊢
    all_goals (cases mn <;> cases si <;> simp [pBreak, ← hI])
    all_goals (try (by_cases h : n < L <;> by_cases h2 : n + 1 < L <;> simp [h, h2]))
  · unfold sRp sNls sIndent sNl
    cases mi <;> cases fl <;> simp [stVS, wantsN]
    all_goals (cases mn <;> cases si <;> simp)
    all_goals (by_cases h : n < L <;> simp [h])
  · unfold sRp sNls sIndent sNl
    cases mi <;> cases fl <;> simp [stVS, wantsN]
    all_goals (cases mn <;> cases si <;> simp)
    all_goals (by_cases h : n < L <;> simp [h])
  · unfold sRp sNls sIndent sNl
    cases mi <;> cases fl <;> simp [stVS, wantsN]
    all_goals (cases mn <;> cases si <;> simp)
    all_goals (by_cases h : n < L <;> simp [h])

theorem pBreak_len (k lv n L : Nat) (hkl : k * lv ≤ 65536) (hlv : lv ≤ 65536) : (pBreak false k lv n L).length ≤ 70000 := by
  unfold pBreak pIndent
  split <;> split <;> simp <;> (try split) <;> simp <;> omega
theorem pParen_break (si mn : Bool) (k lv n L : Nat) (hbr : mn = true ∨ (si = false ∧ n < L)) : pParen false si false mn k lv n L = (pBreak false k lv n L ++ [41], max n L, false, false) := by
  unfold pParen
  rcases hbr with h | ⟨h1, h2⟩
  · simp [h]
  · simp [h1, h2]
theorem pParen_plain (si : Bool) (k lv n L : Nat) (hbr : ¬ (false = true ∨ (si = false ∧ n < L))) : pParen false si false false k lv n L = ([41], n, false, false) := by
  unfold pParen
  have h : (false || (!si && decide (n < L))) = false := by
    cases si
    · simp only [Bool.not_false, Bool.true_and, Bool.false_or, decide_eq_false_iff_not]
      exact fun h => hbr (.inr ⟨rfl, h⟩)
    · rfl
  simp [h]
end Go.Proofs.YtmdkpihlhdjjaaaGreatFmt

namespace Go.Proofs.YtmdkpihlhdjjaaaGreatFmt
open Go.RowKit
variable {B : Nat} {w : World} {v : Value} {l : List UInt8}

set_option maxRecDepth 100000 in
set_option maxHeartbeats 4000000 in
theorem p_rep (h : RowB B w v l) (c : UInt8) (n : Nat) (hl : l.length + n ≤ 8589934592) :
    Calls Tryz.prog 53 #[v, .int .u8 (c.toNat : Int), .int .u64 (n : Int)] w fun e w' => ∃ v', e = .returned v' ∧ RowB B w' v' (l ++ List.replicate n c) ∧ Upd (fun k => B ≤ k) w w' := by
  have hnI : (n : Int) ≤ 8589934592 := by omega
  have HL := Lib.hid hl
  have H0 := Lib.hid h
  clear hl h
  go_enter Tryz.func53, Tryz.ntmps53
  go_wp2_with fail
  go_loopg [0, 7] n (fun k vb vi wr => ∃ j : Nat, vi = .int .u64 (j : Int) ∧ j + k = n ∧ RowB B wr vb (l ++ List.replicate j c) ∧ Upd (fun k => B ≤ k) w wr)
  case atStart => exact ⟨0, rfl, by omega, by simpa using H0.out, Upd.refl _ _⟩
  case round =>
    obtain ⟨j, rfl, hjk, hrow, hu⟩ := hrel
    have HJ := Lib.hid hjk
    clear hjk
    by_cases hlt : j < n
    · have hltI : (j : Int) < (n : Int) := by omega
      obtain ⟨v4, w4, hr4, hrow4, hu4⟩ := hrow.pushAt c (x := (c.toNat : Int)) rfl (by rw [List.length_append, List.length_replicate]; have := HL.out; unfold LIM; omega) (n := wr.heap.size) rfl
      have HR4 := Lib.hid hr4
      have HW4 := Lib.hid (And.intro hrow4 (hu.trans hu4))
      clear hr4 hrow4 hu4 hrow hu
      go_wp2_with (at_builtin; refine wpList_append_run rfl _ _ _ rfl rfl rfl HR4.out ?_; clear HR4)
      go_roundg (n - (j + 1))
      case measure => have := HJ.out; omega
      case rel =>
        refine ⟨j + 1, by go_num, by have := HJ.out; omega, ?_, HW4.out.2⟩
        rw [List.replicate_succ', ← List.append_assoc]
        exact HW4.out.1
    · obtain rfl : j = n := by have := HJ.out; omega
      have hltI : ¬ (j : Int) < (j : Int) := by omega
      have HW := Lib.hid (And.intro hrow hu)
      clear hrow hu
      go_wp2_with fail
      go_ret
      exact ⟨_, rfl, HW.out.1, HW.out.2⟩


set_option maxRecDepth 100000 in
set_option maxHeartbeats 4000000 in
theorem p_indent (h : RowB B w v l) (mi : Bool) (k lv : Nat) (hkl : k * lv ≤ 65536) (hlv : lv ≤ 65536) (hl : l.length ≤ 8000000000) :
    Calls Tryz.prog 22 #[v, .bool mi, .int .u64 (k : Int), .int .u64 (lv : Int)] w fun e w' => ∃ v', e = .returned v' ∧ RowB B w' v' (l ++ pIndent mi k lv) ∧ Upd (fun k => B ≤ k) w w' := by
  have H0 := Lib.hid (And.intro h (And.intro hkl (And.intro hlv hl)))
  clear h hkl hlv hl
  cases mi
  · by_cases h0 : lv = 0
    · subst h0
      go_enter Tryz.func22, Tryz.ntmps22
      go_wp2_with fail
      go_ret
      exact ⟨_, rfl, by simpa [pIndent] using H0.out.1, Upd.refl _ _⟩
    · have h0I : ((lv : Int) == 0) = false := by rw [beq_eq_false_iff_ne]; omega
      have HN := Lib.hid h0
      clear h0
      by_cases hk : k = 0
      · subst hk
        obtain ⟨v4, w4, hr4, hrow4, hu4⟩ := H0.out.1.pushAt 255 (x := 255) rfl (by have := H0.out.2.2.2; unfold LIM; omega) (n := w.heap.size) rfl
        have hc := p_rep hrow4 9 lv (by rw [List.length_append, List.length_singleton]; have := H0.out.2.2.2; have := H0.out.2.2.1; omega)
        have HR4 := Lib.hid hr4
        have HC := Lib.hid hc
        have HU4 := Lib.hid hu4
        clear hr4 hrow4 hu4 hc
        go_enter Tryz.func22, Tryz.ntmps22
        go_wp2_with (first
          | (at_builtin; refine wpList_append_run rfl _ _ _ rfl rfl rfl HR4.out ?_; clear HR4)
          | (go_at_call 53; refine HC.out.mono ?_; rintro e w5 ⟨v5, rfl, h5, hu5⟩
             obtain ⟨v6, w6, hr6, hrow6, hu6⟩ := h5.pushAt 255 (x := 255) rfl (by rw [List.length_append, List.length_append, List.length_singleton, List.length_replicate]; have := H0.out.2.2.2; have := H0.out.2.2.1; unfold LIM; omega) (n := w5.heap.size) rfl
             have HR6 := Lib.hid hr6
             have HW6 := Lib.hid (And.intro hrow6 ((HU4.out.trans hu5).trans hu6))
             clear hr6 hrow6 hu6 h5 hu5 HC)
          | (at_builtin; refine wpList_append_run rfl _ _ _ rfl rfl rfl HR6.out ?_; clear HR6))
        go_ret
        refine ⟨_, rfl, ?_, HW6.out.2⟩
        have e1 : l ++ pIndent false 0 lv = l ++ [255] ++ List.replicate lv 9 ++ [255] := by
          unfold pIndent
          rw [decide_eq_false HN.out]
          simp
        rw [e1]
        exact HW6.out.1
      · have hkI : ((k : Int) == 0) = false := by rw [beq_eq_false_iff_ne]; omega
        have HK := Lib.hid hk
        clear hk
        obtain ⟨n, hn⟩ : ∃ n, n = k * lv := ⟨_, rfl⟩
        have hmul : IntKind.u64.wrap ((k : Int) * (lv : Int)) = (n : Int) := by
          have h0 := H0.out.2.1
          have h1 : (k : Int) * (lv : Int) ≤ 65536 := by rw [← Int.natCast_mul]; omega
          have h2 : 0 ≤ (k : Int) * (lv : Int) := by rw [← Int.natCast_mul]; omega
          rw [hn, IntKind.wrap_u64, Int.natCast_mul]
          omega
        have hc := p_rep H0.out.1 32 n (by have := H0.out.2.2.2; have := H0.out.2.1; omega)
        have HN2 := Lib.hid hn
        clear hn
        have HC := Lib.hid hc
        clear hc
        go_enter Tryz.func22, Tryz.ntmps22
        go_wp2_with (go_at_call 53; refine HC.out.mono ?_; rintro e w5 ⟨v5, rfl, h5, hu5⟩
                     have HW5 := Lib.hid (And.intro h5 hu5)
                     clear h5 hu5 HC)
        go_ret
        refine ⟨_, rfl, ?_, HW5.out.2⟩
        have e1 : l ++ pIndent false k lv = l ++ List.replicate (k * lv) 32 := by
          unfold pIndent
          rw [decide_eq_false HN.out]
          simp [HK.out]
        rw [e1, ← HN2.out]
        exact HW5.out.1
  · go_enter Tryz.func22, Tryz.ntmps22
    go_wp2_with fail
    go_ret
    exact ⟨_, rfl, by simpa [pIndent] using H0.out.1, Upd.refl _ _⟩


set_option maxRecDepth 100000 in
theorem p_max (a c : Nat) (w : World) : Calls Tryz.prog 23 #[.int .u64 (a : Int), .int .u64 (c : Int)] w fun e w' => e = .returned (.int .u64 ((max a c : Nat) : Int)) ∧ w = w' := by
  by_cases h : c < a
  · have hI : (c : Int) < (a : Int) := by omega
    have e : max a c = a := by omega
    rw [e]
    clear h e
    go_enter Tryz.func23, Tryz.ntmps23
    go_wp2
    go_ret
    exact ⟨rfl, rfl⟩
  · have hI : (a : Int) ≤ (c : Int) := by omega
    have e : max a c = c := by omega
    rw [e]
    clear h e
    go_enter Tryz.func23, Tryz.ntmps23
    go_wp2
    go_ret
    exact ⟨rfl, rfl⟩

end Go.Proofs.YtmdkpihlhdjjaaaGreatFmt
