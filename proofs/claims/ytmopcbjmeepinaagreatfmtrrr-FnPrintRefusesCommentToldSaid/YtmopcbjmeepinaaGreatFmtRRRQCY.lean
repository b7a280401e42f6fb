/-
  NewPrinter with the options Indent, Minify, SingleLine.
-/
import Derived.Test.YtmopcbjmeepinaaGreatFmtRRRSame
namespace Go.Proofs.YtmopcbjmeepinaaGreatFmtRRR
open Go.RowKit

def qc_opts (n : Nat) (k : Nat) (mi : Bool) (si : Bool) : List POpt :=
  [⟨53, n, .int .u64 (k : Int), optIn k⟩,
    ⟨54, n + 1, .bool mi, optMi mi⟩,
    ⟨55, n + 2, .bool si, optSi si⟩]

theorem qc_good (n : Nat) (k : Nat) (mi : Bool) (si : Bool) : ∀ o ∈ qc_opts n k mi si, o.Good := by
  intro o ho
  simp only [qc_opts, List.mem_cons, List.not_mem_nil, or_false] at ho
  rcases ho with rfl | rfl | rfl
  · exact ⟨in_opt _ _, fun args w => by kernel_rfl⟩
  · exact ⟨mi_opt _ _, fun args w => by kernel_rfl⟩
  · exact ⟨si_opt _ _, fun args w => by kernel_rfl⟩

def qc_boxes (n : Nat) (k : Nat) (mi : Bool) (si : Bool) : List Obj :=
  [.cells #[.int .u64 (k : Int)] 22, .cells #[.bool mi] 4, .cells #[.bool si] 4,
    .cells #[.func (.func 53) #[] #[.pointer (some ⟨n, 0, none⟩)], .func (.func 54) #[] #[.pointer (some ⟨n + 1, 0, none⟩)], .func (.func 55) #[] #[.pointer (some ⟨n + 2, 0, none⟩)]] 27]

def qc_PS (k : Nat) (mi : Bool) (si : Bool) : PS := optSi si (optMi mi (optIn k (PS0)))

theorem qc_new (k : Nat) (mi : Bool) (si : Bool) (w : World) : Calls Tryz.prog 13 #[.slice (some ⟨w.heap.size + 3, 0, none⟩) 3 3] ((qc_boxes w.heap.size k mi si).foldl World.alloc w) fun e w' =>
    ∃ pb, e = .returned (.pointer (some ⟨pb, 0, none⟩)) ∧ ∃ b tb O, PrAny pb b tb (qc_PS k mi si) w' O ∧ (∀ k, O k → w.heap.size ≤ k) ∧ Upd (fun _ => False) w w' := by
  have hb := fun i o (h : (qc_boxes w.heap.size k mi si)[i]? = some o) => allocs_get (qc_boxes w.heap.size k mi si) w h
  have hu := allocs_upd (qc_boxes w.heap.size k mi si) w
  have hv := hb 3 _ rfl
  have hn := new_printer (qc_opts w.heap.size k mi si) (qc_good _ _ _ _) (w := (qc_boxes w.heap.size k mi si).foldl World.alloc w) (a := w.heap.size + 3) (c := 3) (by simp [qc_opts]) (fun j o hj => by
    rcases j with _ | _ | _ | j
    all_goals first
      | (simp [qc_opts] at hj; done)
      | (simp only [qc_opts, List.getElem?_cons_succ, List.getElem?_cons_zero, Option.some.injEq] at hj; subst hj; first
          | exact ⟨cell_at hv 0, cell_at (hb 0 _ rfl) 0⟩ | exact ⟨cell_at hv 1, cell_at (hb 1 _ rfl) 0⟩ | exact ⟨cell_at hv 2, cell_at (hb 2 _ rfl) 0⟩))
  refine Calls.mono hn ?_
  rintro e w2 ⟨pb, b, tb, O, rfl, hA, hO, hu2⟩
  exact ⟨pb, rfl, b, tb, O, hA, fun k hk => Nat.le_trans hu.size (hO k hk), hu.trans hu2⟩
end Go.Proofs.YtmopcbjmeepinaaGreatFmtRRR
