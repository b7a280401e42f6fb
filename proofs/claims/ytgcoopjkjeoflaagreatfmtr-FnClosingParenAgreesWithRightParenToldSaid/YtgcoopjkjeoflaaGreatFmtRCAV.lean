/-
  n010_157.FnClosingParenAgreesWithRightParen: what the walk wants.
-/
import Derived.Test.YtgcoopjkjeoflaaGreatFmtRCe
import GoSem.ClaimData
namespace Go.Proofs.YtgcoopjkjeoflaaGreatFmtR
open Go.RowKit

theorem ks_one {w : World} (k : Nat) : KsRd (w.alloc (.cells #[.int .u8 (k : Int)] 5)) (.slice (some ⟨w.heap.size, 0, none⟩) 1 1) [k] :=
  .inr ⟨⟨w.heap.size, 0, none⟩, 1, rfl, Nat.le_refl _, fun j x hj => by
    rcases j with _ | j
    · simp only [List.getElem?_cons_zero, Option.some.injEq] at hj
      subst hj
      exact cell_at (heap_alloc_new w _) 0
    · simp at hj⟩
theorem ks_two {w : World} (k m : Nat) : KsRd (w.alloc (.cells #[.int .u8 (k : Int), .int .u8 (m : Int)] 5)) (.slice (some ⟨w.heap.size, 0, none⟩) 2 2) [k, m] :=
  .inr ⟨⟨w.heap.size, 0, none⟩, 2, rfl, Nat.le_refl _, fun j x hj => by
    rcases j with _ | _ | j
    · simp only [List.getElem?_cons_zero, Option.some.injEq] at hj
      subst hj
      exact cell_at (heap_alloc_new w _) 0
    · simp only [List.getElem?_cons_succ, List.getElem?_cons_zero, Option.some.injEq] at hj
      subst hj
      exact cell_at (heap_alloc_new w _) 1
    · simp at hj⟩

set_option maxRecDepth 100000 in
theorem st_neq (v : VS) (w : World) : (binOp .neq 25 (stV v) (stV v)).run Tryz.prog w = .ok (.bool false) w := by
  simp only [stV, stC]
  go_simp

theorem st_eql (v : VS) (w : World) : (binOp .eql 25 (stV v) (stV v)).run Tryz.prog w = .ok (.bool true) w := by
  simp only [stV, stC]
  go_simp

theorem al_heap {W : World} {g : Nat} {o : Obj} (h : W.heap[g]? = some o) (X : Obj) : (W.alloc X).heap[g]? = some o := (Below.heap_alloc _ _ _ (heap_lt h)).trans h
theorem up_heap {W W' : World} (hu : Upd (fun _ => False) W W') {g : Nat} {o : Obj} (h : W.heap[g]? = some o) (X : Obj) : (W'.alloc X).heap[g]? = some o := al_heap (hu.heap h fun h => h) X

theorem cl_text {v : VS} {ks : List Nat} {nl o c : Nat} {r : Bool} (h : (decide (nl = 0) && endKs ks && (v.si || decide (o = c))) = r) : clT v ks nl o c = (if r then [32] else []) ++ (mRp v c ++ [41]) := by
  unfold clT
  rw [h, List.append_assoc]

end Go.Proofs.YtgcoopjkjeoflaaGreatFmtR
