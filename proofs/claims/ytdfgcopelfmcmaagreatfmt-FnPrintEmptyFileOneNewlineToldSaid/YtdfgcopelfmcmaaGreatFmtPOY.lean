/-
  n010_39.FnPrintEmptyFileOneNewline: whatever the input, true.
-/
import Derived.Test.YtdfgcopelfmcmaaGreatFmtPeG
import Derived.Test.YtdfgcopelfmcmaaGreatFmtSame
namespace Go.Proofs.YtdfgcopelfmcmaaGreatFmt
open Go.RowKit

/-- The eight options, as they lie behind one another. -/
def eight (n k : Nat) (mi si bn fn sw sr keep : Bool) : List POpt :=
  [⟨37, n, .int .u64 (k : Int), optIn k⟩, ⟨38, n + 1, .bool bn, optBn bn⟩, ⟨39, n + 2, .bool fn, optFn fn⟩, ⟨40, n + 3, .bool sw, optSw sw⟩,
    ⟨41, n + 4, .bool sr, optSr sr⟩, ⟨42, n + 5, .bool keep, optKp keep⟩, ⟨43, n + 6, .bool mi, optMi mi⟩, ⟨44, n + 7, .bool si, optSi si⟩]

theorem eight_good (n k : Nat) (mi si bn fn sw sr keep : Bool) : ∀ o ∈ eight n k mi si bn fn sw sr keep, o.Good := by
  intro o ho
  simp only [eight, List.mem_cons, List.not_mem_nil, or_false] at ho
  rcases ho with rfl | rfl | rfl | rfl | rfl | rfl | rfl | rfl
  · exact ⟨in_opt _ _, fun args w => by kernel_rfl⟩
  · exact ⟨bn_opt _ _, fun args w => by kernel_rfl⟩
  · exact ⟨fn_opt _ _, fun args w => by kernel_rfl⟩
  · exact ⟨sw_opt _ _, fun args w => by kernel_rfl⟩
  · exact ⟨sr_opt _ _, fun args w => by kernel_rfl⟩
  · exact ⟨kp_opt _ _, fun args w => by kernel_rfl⟩
  · exact ⟨mi_opt _ _, fun args w => by kernel_rfl⟩
  · exact ⟨si_opt _ _, fun args w => by kernel_rfl⟩

/-- The options' boxes, and the row of the closures. -/
def boxes8 (n k : Nat) (mi si bn fn sw sr keep : Bool) : List Obj :=
  [.cells #[.int .u64 (k : Int)] 35, .cells #[.bool bn] 4, .cells #[.bool fn] 4, .cells #[.bool sw] 4, .cells #[.bool sr] 4, .cells #[.bool keep] 4, .cells #[.bool mi] 4, .cells #[.bool si] 4,
    .cells #[.func (.func 37) #[] #[.pointer (some ⟨n, 0, none⟩)], .func (.func 38) #[] #[.pointer (some ⟨n + 1, 0, none⟩)], .func (.func 39) #[] #[.pointer (some ⟨n + 2, 0, none⟩)],
      .func (.func 40) #[] #[.pointer (some ⟨n + 3, 0, none⟩)], .func (.func 41) #[] #[.pointer (some ⟨n + 4, 0, none⟩)], .func (.func 42) #[] #[.pointer (some ⟨n + 5, 0, none⟩)],
      .func (.func 43) #[] #[.pointer (some ⟨n + 6, 0, none⟩)], .func (.func 44) #[] #[.pointer (some ⟨n + 7, 0, none⟩)]] 38]

def PS8 (k : Nat) (mi si bn fn sw sr keep : Bool) : PS := optSi si (optMi mi (optKp keep (optSr sr (optSw sw (optFn fn (optBn bn (optIn k PS0)))))))
theorem PS8_k (k : Nat) (mi si bn fn sw sr keep : Bool) : (PS8 k mi si bn fn sw sr keep).k = k := by cases keep <;> rfl

theorem new8 (k : Nat) (mi si bn fn sw sr keep : Bool) (w : World) : Calls Tryz.prog 21 #[.slice (some ⟨w.heap.size + 8, 0, none⟩) 8 8] ((boxes8 w.heap.size k mi si bn fn sw sr keep).foldl World.alloc w) fun e w' =>
    ∃ pb, e = .returned (.pointer (some ⟨pb, 0, none⟩)) ∧ ∃ b tb O, PrAny pb b tb (PS8 k mi si bn fn sw sr keep) w' O ∧ (∀ k, O k → w.heap.size ≤ k) ∧ Upd (fun _ => False) w w' := by
  have hb := fun i o (h : (boxes8 w.heap.size k mi si bn fn sw sr keep)[i]? = some o) => allocs_get (boxes8 w.heap.size k mi si bn fn sw sr keep) w h
  have hu := allocs_upd (boxes8 w.heap.size k mi si bn fn sw sr keep) w
  have hz := allocs_size (boxes8 w.heap.size k mi si bn fn sw sr keep) w
  have hv := hb 8 _ rfl
  have hn := new_printer (eight w.heap.size k mi si bn fn sw sr keep) (eight_good _ _ _ _ _ _ _ _ _) (w := (boxes8 w.heap.size k mi si bn fn sw sr keep).foldl World.alloc w) (a := w.heap.size + 8) (c := 8) (by simp [eight]) (fun j o hj => by
    rcases j with _ | _ | _ | _ | _ | _ | _ | _ | j
    all_goals first
      | (simp [eight] at hj; done)
      | (simp only [eight, List.getElem?_cons_succ, List.getElem?_cons_zero, Option.some.injEq] at hj; subst hj; first
          | exact ⟨cell_at hv 0, cell_at (hb 0 _ rfl) 0⟩ | exact ⟨cell_at hv 1, cell_at (hb 1 _ rfl) 0⟩ | exact ⟨cell_at hv 2, cell_at (hb 2 _ rfl) 0⟩ | exact ⟨cell_at hv 3, cell_at (hb 3 _ rfl) 0⟩
          | exact ⟨cell_at hv 4, cell_at (hb 4 _ rfl) 0⟩ | exact ⟨cell_at hv 5, cell_at (hb 5 _ rfl) 0⟩ | exact ⟨cell_at hv 6, cell_at (hb 6 _ rfl) 0⟩ | exact ⟨cell_at hv 7, cell_at (hb 7 _ rfl) 0⟩))
  refine Calls.mono hn ?_
  rintro e w2 ⟨pb, b, tb, O, rfl, hA, hO, hu2⟩
  exact ⟨pb, rfl, b, tb, O, hA, fun k hk => Nat.le_trans hu.size (hO k hk), hu.trans hu2⟩

end Go.Proofs.YtdfgcopelfmcmaaGreatFmt
