/-
  Many variables made in a row; n010_39: an empty sink, and the comparison of bytes with a string and with bytes.
-/
import Derived.Test.YtnhmgjgdkcgmfaaGreatFmtMa
namespace Go.Proofs.YtnhmgjgdkcgmfaaGreatFmt
open Go.RowKit

theorem allocs_size (cs : List Obj) (w : World) : (cs.foldl World.alloc w).heap.size = w.heap.size + cs.length := by
  induction cs generalizing w with
  | nil => rfl
  | cons c cs ih => rw [List.foldl_cons, ih]; simp; omega
theorem allocs_upd (cs : List Obj) (w : World) : Upd (fun _ => False) w (cs.foldl World.alloc w) := by
  induction cs generalizing w with
  | nil => exact Upd.refl _ _
  | cons c cs ih => rw [List.foldl_cons]; exact ((Upd.refl _ w).alloc c).trans (ih _)
theorem allocs_get (cs : List Obj) (w : World) {i : Nat} {o : Obj} (h : cs[i]? = some o) : (cs.foldl World.alloc w).heap[w.heap.size + i]? = some o := by
  induction cs generalizing w i with
  | nil => simp at h
  | cons c cs ih =>
    rw [List.foldl_cons]
    cases i with
    | zero =>
      simp only [List.getElem?_cons_zero, Option.some.injEq] at h
      subst h
      exact (allocs_upd cs _).heap (heap_alloc_new w c) fun h => h
    | succ i =>
      have := ih (w.alloc c) (i := i) (by simpa using h)
      rw [show (w.alloc c).heap.size = w.heap.size + 1 by simp] at this
      rw [show w.heap.size + (i + 1) = w.heap.size + 1 + i by omega]
      exact this

end Go.Proofs.YtnhmgjgdkcgmfaaGreatFmt
