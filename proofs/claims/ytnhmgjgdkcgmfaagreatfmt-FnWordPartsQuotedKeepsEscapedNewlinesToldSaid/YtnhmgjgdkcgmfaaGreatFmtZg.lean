/-
  n010_150: escaped newlines are stripped: plain laws.
-/
import Derived.Test.YtnhmgjgdkcgmfaaGreatFmtZf
namespace Go.Proofs.YtnhmgjgdkcgmfaaGreatFmt
open Go.RowKit

/-- One byte is read: a newline takes the last byte away. -/
def stStep (st : List UInt8 × Nat) (c : UInt8) : List UInt8 × Nat := if c = 10 then (st.1.dropLast, st.2 + 1) else (st.1 ++ [c], st.2)
def stRun (st : List UInt8 × Nat) (xs : List UInt8) : List UInt8 × Nat := xs.foldl stStep st
/-- Every newline stands behind a backslash. -/
def stGood (st : List UInt8 × Nat) (xs : List UInt8) : Prop := ∀ i, xs[i]? = some 10 → (stRun st (xs.take i)).1.getLast? = some 92

theorem stRun_append (st : List UInt8 × Nat) (xs ys : List UInt8) : stRun st (xs ++ ys) = stRun (stRun st xs) ys := by simp [stRun, List.foldl_append]
theorem stGood_append {st : List UInt8 × Nat} {xs ys : List UInt8} (h1 : stGood st xs) (h2 : stGood (stRun st xs) ys) : stGood st (xs ++ ys) := by
  intro i hi
  by_cases h : i < xs.length
  · rw [List.getElem?_append_left h] at hi
    rw [List.take_append_of_le_length (Nat.le_of_lt h)]
    exact h1 i hi
  · have hle : xs.length ≤ i := by omega
    rw [List.getElem?_append_right hle] at hi
    rw [List.take_append, List.take_of_length_le hle, stRun_append]
    exact h2 _ hi
theorem stRun_plain (st : List UInt8 × Nat) (xs : List UInt8) (h : ∀ c ∈ xs, c ≠ 10) : stRun st xs = (st.1 ++ xs, st.2) ∧ stGood st xs := by
  constructor
  · induction xs generalizing st with
    | nil => simp [stRun]
    | cons c r ih =>
      have h1 : c ≠ 10 := h c (by simp)
      have h2 := ih (stStep st c) fun d hd => h d (List.mem_cons_of_mem _ hd)
      simp only [stRun, List.foldl_cons] at h2 ⊢
      rw [h2]
      simp [stStep, h1]
  · intro i hi
    exact absurd rfl (h 10 (List.mem_of_getElem? hi))
theorem stRun_nls (st : List UInt8 × Nat) (n : Nat) : stRun st (nls n) = (st.1, st.2 + n) ∧ stGood st (nls n) := by
  induction n with
  | zero => exact ⟨rfl, fun i hi => by simp [nls] at hi⟩
  | succ n ih =>
    have h2 : stRun (stRun st (nls n)) [92, 10] = ((stRun st (nls n)).1, (stRun st (nls n)).2 + 1) := by simp [stRun, stStep]
    constructor
    · show stRun st (nls n ++ [92, 10]) = _
      rw [stRun_append, h2, ih.1]
      rfl
    · refine stGood_append ih.2 fun i hi => ?_
      rcases i with _ | _ | i
      · simp at hi
      · simp [stRun, stStep]
      · simp at hi

theorem litText_no10 {s : ByteArray} (h : ∀ c ∈ s.data.toList, c ≠ 10) : ∀ c ∈ litText s.data.toList, c ≠ 10 := by
  intro c hc
  unfold litText at hc
  split at hc
  · rw [List.mem_append, List.mem_singleton] at hc
    rcases hc with hc | rfl
    · exact h c hc
    · decide
  · exact h c hc

theorem stRun_qZ (vals : List ByteArray) (hv : ∀ s ∈ vals, ∀ c ∈ s.data.toList, c ≠ 10) (ln : Nat) (lines : List Nat) (hlen : lines.length = vals.length) (st : List UInt8 × Nat) :
    stRun st (qZ ln (vals.zip lines)) = (st.1 ++ litsText vals, st.2 + (qZl ln (vals.zip lines) - ln)) ∧ stGood st (qZ ln (vals.zip lines)) := by
  induction vals generalizing ln lines st with
  | nil => exact ⟨by simp [stRun, qZ, qZl, litsText], fun i hi => by simp [qZ] at hi⟩
  | cons s r ih =>
    cases lines with
    | nil => simp at hlen
    | cons x xs =>
      have h1 := stRun_nls st (clampL x - ln)
      have h2 := stRun_plain (stRun st (nls (clampL x - ln))) (litText s.data.toList) (litText_no10 (hv s (by simp)))
      have h3 := ih (fun t ht => hv t (List.mem_cons_of_mem _ ht)) (max ln (clampL x)) xs (by simpa using hlen) (stRun (stRun st (nls (clampL x - ln))) (litText s.data.toList))
      have hge := qZl_ge (max ln (clampL x)) (r.zip xs)
      simp only [List.zip_cons_cons, qZ, qZl]
      constructor
      · rw [stRun_append, stRun_append, h3.1, h2.1, h1.1]
        simp only [litsText, List.flatMap_cons, List.append_assoc, Prod.mk.injEq, true_and]
        omega
      · exact stGood_append (stGood_append h1.2 h2.2) (by rw [stRun_append]; exact h3.2)

/-- The stripped text of the quoted literals, and how many newlines were taken. -/
theorem stRun_dbl (vals : List ByteArray) (hv : ∀ s ∈ vals, ∀ c ∈ s.data.toList, c ≠ 10) (L R : Nat) (lines : List Nat) (hlen : lines.length = vals.length) :
    stRun ([], 0) (dblZ false L R vals lines) = ([34] ++ litsText vals ++ [34], (qZl L (vals.zip lines) - L) + (clampL R - qZl L (vals.zip lines))) ∧ stGood ([], 0) (dblZ false L R vals lines) := by
  have h0 := stRun_plain ([], 0) [34] (by simp)
  have h1 := stRun_qZ vals hv L lines hlen (stRun ([], 0) [34])
  have h2 := stRun_nls (stRun (stRun ([], 0) [34]) (qZ L (vals.zip lines))) (clampL R - qZl L (vals.zip lines))
  have h3 := stRun_plain (stRun (stRun (stRun ([], 0) [34]) (qZ L (vals.zip lines))) (nls (clampL R - qZl L (vals.zip lines)))) [34] (by simp)
  have e : dblZ false L R vals lines = [34] ++ qZ L (vals.zip lines) ++ nls (clampL R - qZl L (vals.zip lines)) ++ [34] := by simp [dblZ]
  rw [e]
  constructor
  · rw [stRun_append, stRun_append, stRun_append, h3.1, h2.1, h1.1, h0.1]
    simp
  · exact stGood_append (stGood_append (stGood_append h0.2 h1.2) (by rw [stRun_append]; exact h2.2)) (by rw [stRun_append, stRun_append]; exact h3.2)

/-- The highest line. -/
def topL (m : Nat) (lines : List Nat) : Nat := lines.foldl max m
theorem topL_ge (lines : List Nat) (m : Nat) : m ≤ topL m lines := by
  induction lines generalizing m with
  | nil => exact Nat.le_refl _
  | cons x r ih => exact Nat.le_trans (Nat.le_max_left _ _) (ih _)
theorem topL_max (lines : List Nat) (a b : Nat) : topL (max a b) lines = max (topL a lines) b := by
  induction lines generalizing a with
  | nil => rfl
  | cons x r ih =>
    have e : max (max a b) x = max (max a x) b := by omega
    show topL (max (max a b) x) r = max (topL (max a x) r) b
    rw [e, ih]
theorem qZl_top (vals : List ByteArray) (lines : List Nat) (hlen : lines.length = vals.length) (h : ∀ x ∈ lines, x ≤ 65536) (ln : Nat) : qZl ln (vals.zip lines) = topL ln lines := by
  induction vals generalizing ln lines with
  | nil =>
    have : lines = [] := List.length_eq_zero_iff.1 (by simpa using hlen)
    subst this
    rfl
  | cons s r ih =>
    cases lines with
    | nil => simp at hlen
    | cons x xs =>
      have hx : clampL x = x := by unfold clampL; rw [if_neg (by have := h x (by simp); omega)]
      simp only [List.zip_cons_cons, qZl, hx]
      rw [ih xs (by simpa using hlen) fun y hy => h y (List.mem_cons_of_mem _ hy)]
      rfl
theorem topL_take (m : Nat) (lines : List Nat) (j : Nat) (hj : j < lines.length) : topL m (lines.take (j + 1)) = max (topL m (lines.take j)) lines[j] := by
  unfold topL
  rw [List.take_succ_eq_append_getElem hj, List.foldl_append]
  rfl
theorem topL_le {M : Nat} (lines : List Nat) (h : ∀ x ∈ lines, x ≤ M) {m : Nat} (hm : m ≤ M) : topL m lines ≤ M := by
  induction lines generalizing m with
  | nil => exact hm
  | cons x r ih => exact ih (fun y hy => h y (List.mem_cons_of_mem _ hy)) (Nat.max_le.2 ⟨hm, h x (by simp)⟩)

theorem RowB.pop {B : Nat} {w : World} {g cap : Nat} {xs : List UInt8} {c : UInt8} (h : RowB B w (.slice (some ⟨g, 0, none⟩) (xs.length + 1) cap) (xs ++ [c])) :
    w.cell? ⟨g, xs.length, none⟩ = some (.int .u8 (c.toNat : Int)) ∧ xs.length + 1 ≤ cap ∧ RowB B w (.slice (some ⟨g, 0, none⟩) xs.length cap) xs := by
  obtain ⟨⟨h1, h2⟩, h3⟩ := h
  rcases h2 with ⟨h4, _⟩ | ⟨g', cap', cur, h4, h5, h6, h7, h8, h9, h10⟩
  · simp at h4
  · simp only [Value.slice.injEq, Option.some.injEq, Addr.mk.injEq, and_true] at h4
    obtain ⟨rfl, _, rfl⟩ := h4
    have hl : (xs ++ [c]).length = xs.length + 1 := by simp
    rw [hl] at h7 h10
    refine ⟨?_, h7, ⟨by simp, .inr ⟨g, cap, cur, rfl, h5, h6, by omega, h8, h9, ?_⟩⟩, h3⟩
    · rw [cell_at h6]
      have e : (cur.toList.take ((xs.length + 1) * 1))[xs.length]? = some (.int .u8 (c.toNat : Int)) := by rw [h10]; simp [bv, B8]
      rw [List.getElem?_take, if_pos (by omega)] at e
      simpa using e
    · have e : (cur.toList.take ((xs.length + 1) * 1)).take (xs.length * 1) = bv xs := by rw [h10, bv_append]; simp
      rw [List.take_take] at e
      rw [← e]
      congr 1
      omega
end Go.Proofs.YtnhmgjgdkcgmfaaGreatFmt
