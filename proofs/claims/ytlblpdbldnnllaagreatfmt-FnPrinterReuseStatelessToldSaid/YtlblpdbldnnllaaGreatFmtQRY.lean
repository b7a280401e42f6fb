/-
  NewPrinter with the options Indent, Minify.
-/
import Derived.Test.YtlblpdbldnnllaaGreatFmtSame
namespace Go.Proofs.YtlblpdbldnnllaaGreatFmt
open Go.RowKit

def qr_opts (n : Nat) (k : Nat) (mi : Bool) : List POpt :=
  [⟨40, n, .int .u64 (k : Int), optIn k⟩,
    ⟨45, n + 1, .bool mi, optMi mi⟩]

theorem qr_good (n : Nat) (k : Nat) (mi : Bool) : ∀ o ∈ qr_opts n k mi, o.Good := by
  intro o ho
  simp only [qr_opts, List.mem_cons, List.not_mem_nil, or_false] at ho
  rcases ho with rfl | rfl
  · exact ⟨in_opt _ _, fun args w => by kernel_rfl⟩
  · exact ⟨mi_opt _ _, fun args w => by kernel_rfl⟩

def qr_boxes (n : Nat) (k : Nat) (mi : Bool) : List Obj :=
  [.cells #[.int .u64 (k : Int)] 26, .cells #[.bool mi] 4,
    .cells #[.func (.func 40) #[] #[.pointer (some ⟨n, 0, none⟩)], .func (.func 45) #[] #[.pointer (some ⟨n + 1, 0, none⟩)]] 34]

def qr_PS (k : Nat) (mi : Bool) : PS := optMi mi (optIn k (PS0))

theorem qr_new (k : Nat) (mi : Bool) (w : World) : Calls Tryz.prog 16 #[.slice (some ⟨w.heap.size + 2, 0, none⟩) 2 2] ((qr_boxes w.heap.size k mi).foldl World.alloc w) fun e w' =>
    ∃ pb, e = .returned (.pointer (some ⟨pb, 0, none⟩)) ∧ ∃ b tb O, PrAny pb b tb (qr_PS k mi) w' O ∧ (∀ k, O k → w.heap.size ≤ k) ∧ Upd (fun _ => False) w w' := by
  have hb := fun i o (h : (qr_boxes w.heap.size k mi)[i]? = some o) => allocs_get (qr_boxes w.heap.size k mi) w h
  have hu := allocs_upd (qr_boxes w.heap.size k mi) w
  have hv := hb 2 _ rfl
  have hn := new_printer (qr_opts w.heap.size k mi) (qr_good _ _ _) (w := (qr_boxes w.heap.size k mi).foldl World.alloc w) (a := w.heap.size + 2) (c := 2) (by simp [qr_opts]) (fun j o hj => by
    rcases j with _ | _ | j
    all_goals first
      | (simp [qr_opts] at hj; done)
      | (simp only [qr_opts, List.getElem?_cons_succ, List.getElem?_cons_zero, Option.some.injEq] at hj; subst hj; first
          | exact ⟨cell_at hv 0, cell_at (hb 0 _ rfl) 0⟩ | exact ⟨cell_at hv 1, cell_at (hb 1 _ rfl) 0⟩))
  refine Calls.mono hn ?_
  rintro e w2 ⟨pb, b, tb, O, rfl, hA, hO, hu2⟩
  exact ⟨pb, rfl, b, tb, O, hA, fun k hk => Nat.le_trans hu.size (hO k hk), hu.trans hu2⟩
end Go.Proofs.YtlblpdbldnnllaaGreatFmt
