/-
  NewPrinter with the options Indent, BinaryNextLine, SwitchCaseIndent, SpaceRedirects, FunctionNextLine, Minify, SingleLine.
-/
import Derived.Test.YtlblpdbldnnllaaGreatFmtSame
namespace Go.Proofs.YtlblpdbldnnllaaGreatFmt
open Go.RowKit

def qw_opts (n : Nat) (k : Nat) (bn : Bool) (sw : Bool) (sr : Bool) (fn : Bool) (mi : Bool) (si : Bool) : List POpt :=
  [⟨40, n, .int .u64 (k : Int), optIn k⟩,
    ⟨41, n + 1, .bool bn, optBn bn⟩,
    ⟨42, n + 2, .bool sw, optSw sw⟩,
    ⟨43, n + 3, .bool sr, optSr sr⟩,
    ⟨44, n + 4, .bool fn, optFn fn⟩,
    ⟨45, n + 5, .bool mi, optMi mi⟩,
    ⟨46, n + 6, .bool si, optSi si⟩]

theorem qw_good (n : Nat) (k : Nat) (bn : Bool) (sw : Bool) (sr : Bool) (fn : Bool) (mi : Bool) (si : Bool) : ∀ o ∈ qw_opts n k bn sw sr fn mi si, o.Good := by
  intro o ho
  simp only [qw_opts, List.mem_cons, List.not_mem_nil, or_false] at ho
  rcases ho with rfl | rfl | rfl | rfl | rfl | rfl | rfl
  · exact ⟨in_opt _ _, fun args w => by kernel_rfl⟩
  · exact ⟨bn_opt _ _, fun args w => by kernel_rfl⟩
  · exact ⟨sw_opt _ _, fun args w => by kernel_rfl⟩
  · exact ⟨sr_opt _ _, fun args w => by kernel_rfl⟩
  · exact ⟨fn_opt _ _, fun args w => by kernel_rfl⟩
  · exact ⟨mi_opt _ _, fun args w => by kernel_rfl⟩
  · exact ⟨si_opt _ _, fun args w => by kernel_rfl⟩

def qw_boxes (n : Nat) (k : Nat) (bn : Bool) (sw : Bool) (sr : Bool) (fn : Bool) (mi : Bool) (si : Bool) : List Obj :=
  [.cells #[.int .u64 (k : Int)] 26, .cells #[.bool bn] 4, .cells #[.bool sw] 4, .cells #[.bool sr] 4, .cells #[.bool fn] 4, .cells #[.bool mi] 4, .cells #[.bool si] 4,
    .cells #[.func (.func 40) #[] #[.pointer (some ⟨n, 0, none⟩)], .func (.func 41) #[] #[.pointer (some ⟨n + 1, 0, none⟩)], .func (.func 42) #[] #[.pointer (some ⟨n + 2, 0, none⟩)], .func (.func 43) #[] #[.pointer (some ⟨n + 3, 0, none⟩)], .func (.func 44) #[] #[.pointer (some ⟨n + 4, 0, none⟩)], .func (.func 45) #[] #[.pointer (some ⟨n + 5, 0, none⟩)], .func (.func 46) #[] #[.pointer (some ⟨n + 6, 0, none⟩)]] 34]

def qw_PS (k : Nat) (bn : Bool) (sw : Bool) (sr : Bool) (fn : Bool) (mi : Bool) (si : Bool) : PS := optSi si (optMi mi (optFn fn (optSr sr (optSw sw (optBn bn (optIn k (PS0)))))))

theorem qw_new (k : Nat) (bn : Bool) (sw : Bool) (sr : Bool) (fn : Bool) (mi : Bool) (si : Bool) (w : World) : Calls Tryz.prog 16 #[.slice (some ⟨w.heap.size + 7, 0, none⟩) 7 7] ((qw_boxes w.heap.size k bn sw sr fn mi si).foldl World.alloc w) fun e w' =>
    ∃ pb, e = .returned (.pointer (some ⟨pb, 0, none⟩)) ∧ ∃ b tb O, PrAny pb b tb (qw_PS k bn sw sr fn mi si) w' O ∧ (∀ k, O k → w.heap.size ≤ k) ∧ Upd (fun _ => False) w w' := by
  have hb := fun i o (h : (qw_boxes w.heap.size k bn sw sr fn mi si)[i]? = some o) => allocs_get (qw_boxes w.heap.size k bn sw sr fn mi si) w h
  have hu := allocs_upd (qw_boxes w.heap.size k bn sw sr fn mi si) w
  have hv := hb 7 _ rfl
  have hn := new_printer (qw_opts w.heap.size k bn sw sr fn mi si) (qw_good _ _ _ _ _ _ _ _) (w := (qw_boxes w.heap.size k bn sw sr fn mi si).foldl World.alloc w) (a := w.heap.size + 7) (c := 7) (by simp [qw_opts]) (fun j o hj => by
    rcases j with _ | _ | _ | _ | _ | _ | _ | j
    all_goals first
      | (simp [qw_opts] at hj; done)
      | (simp only [qw_opts, List.getElem?_cons_succ, List.getElem?_cons_zero, Option.some.injEq] at hj; subst hj; first
          | exact ⟨cell_at hv 0, cell_at (hb 0 _ rfl) 0⟩ | exact ⟨cell_at hv 1, cell_at (hb 1 _ rfl) 0⟩ | exact ⟨cell_at hv 2, cell_at (hb 2 _ rfl) 0⟩ | exact ⟨cell_at hv 3, cell_at (hb 3 _ rfl) 0⟩ | exact ⟨cell_at hv 4, cell_at (hb 4 _ rfl) 0⟩ | exact ⟨cell_at hv 5, cell_at (hb 5 _ rfl) 0⟩ | exact ⟨cell_at hv 6, cell_at (hb 6 _ rfl) 0⟩))
  refine Calls.mono hn ?_
  rintro e w2 ⟨pb, b, tb, O, rfl, hA, hO, hu2⟩
  exact ⟨pb, rfl, b, tb, O, hA, fun k hk => Nat.le_trans hu.size (hO k hk), hu.trans hu2⟩
end Go.Proofs.YtlblpdbldnnllaaGreatFmt
