/-
  n010_67: the Printer with four options; is the print of an empty file right?
-/
import Derived.Test.YtdfgcopelfmcmaaGreatFmtEmp
namespace Go.Proofs.YtdfgcopelfmcmaaGreatFmt
open Go.RowKit

/-- The four options, as they lie behind one another. -/
def four (n : Nat) (keep mi si fn : Bool) : List POpt :=
  [⟨42, n, .bool keep, optKp keep⟩, ⟨43, n + 1, .bool mi, optMi mi⟩, ⟨44, n + 2, .bool si, optSi si⟩, ⟨39, n + 3, .bool fn, optFn fn⟩]

theorem four_good (n : Nat) (keep mi si fn : Bool) : ∀ o ∈ four n keep mi si fn, o.Good := by
  intro o ho
  simp only [four, List.mem_cons, List.not_mem_nil, or_false] at ho
  rcases ho with rfl | rfl | rfl | rfl
  · exact ⟨kp_opt _ _, fun args w => by kernel_rfl⟩
  · exact ⟨mi_opt _ _, fun args w => by kernel_rfl⟩
  · exact ⟨si_opt _ _, fun args w => by kernel_rfl⟩
  · exact ⟨fn_opt _ _, fun args w => by kernel_rfl⟩

/-- The state behind the four options. -/
def PS4 (keep mi si fn : Bool) : PS := optFn fn (optSi si (optMi mi (optKp keep PS0)))

theorem alloc_get {w : World} {o o' : Obj} {k : Nat} (h : w.heap[k]? = some o') : (w.alloc o).heap[k]? = some o' := (Below.heap_alloc _ _ _ (heap_lt h)).trans h

set_option maxRecDepth 100000 in
set_option maxHeartbeats 4000000 in
theorem new4 (keep mi si fn : Bool) (w : World) : Calls Tryz.prog 9 #[.bool keep, .bool mi, .bool si, .bool fn] w fun e w' =>
    ∃ pb, e = .returned (.pointer (some ⟨pb, 0, none⟩)) ∧ ∃ b tb O, PrAny pb b tb (PS4 keep mi si fn) w' O ∧ (∀ k, O k → w.heap.size ≤ k) ∧ Upd (fun _ => False) w w' := by
  obtain ⟨W, hW⟩ : ∃ W, W = ((((w.alloc (.cells #[.bool keep] 4)).alloc (.cells #[.bool mi] 4)).alloc (.cells #[.bool si] 4)).alloc (.cells #[.bool fn] 4)).alloc
    (.cells #[.func (.func 42) #[] #[.pointer (some ⟨w.heap.size, 0, none⟩)], .func (.func 43) #[] #[.pointer (some ⟨w.heap.size + 1, 0, none⟩)], .func (.func 44) #[] #[.pointer (some ⟨w.heap.size + 2, 0, none⟩)],
      .func (.func 39) #[] #[.pointer (some ⟨w.heap.size + 3, 0, none⟩)]] 38) := ⟨_, rfl⟩
  have hu : Upd (fun _ => False) w W := by rw [hW]; exact ((((Upd.refl _ w).alloc _).alloc _).alloc _).alloc _ |>.alloc _
  have s1 : (w.alloc (.cells #[.bool keep] 4)).heap.size = w.heap.size + 1 := by simp
  have s2 : ((w.alloc (.cells #[.bool keep] 4)).alloc (.cells #[.bool mi] 4)).heap.size = w.heap.size + 2 := by simp
  have s3 : (((w.alloc (.cells #[.bool keep] 4)).alloc (.cells #[.bool mi] 4)).alloc (.cells #[.bool si] 4)).heap.size = w.heap.size + 3 := by simp
  have s4 : ((((w.alloc (.cells #[.bool keep] 4)).alloc (.cells #[.bool mi] 4)).alloc (.cells #[.bool si] 4)).alloc (.cells #[.bool fn] 4)).heap.size = w.heap.size + 4 := by simp
  have b0 : W.heap[w.heap.size]? = some (.cells #[.bool keep] 4 (0, 0)) := by rw [hW]; exact alloc_get (alloc_get (alloc_get (alloc_get (heap_alloc_new w _))))
  have b1 : W.heap[w.heap.size + 1]? = some (.cells #[.bool mi] 4 (0, 0)) := by rw [hW]; have h := heap_alloc_new (w.alloc (.cells #[.bool keep] 4)) (.cells #[.bool mi] 4); rw [s1] at h; exact alloc_get (alloc_get (alloc_get h))
  have b2 : W.heap[w.heap.size + 2]? = some (.cells #[.bool si] 4 (0, 0)) := by rw [hW]; have h := heap_alloc_new ((w.alloc (.cells #[.bool keep] 4)).alloc (.cells #[.bool mi] 4)) (.cells #[.bool si] 4); rw [s2] at h; exact alloc_get (alloc_get h)
  have b3 : W.heap[w.heap.size + 3]? = some (.cells #[.bool fn] 4 (0, 0)) := by rw [hW]; have h := heap_alloc_new (((w.alloc (.cells #[.bool keep] 4)).alloc (.cells #[.bool mi] 4)).alloc (.cells #[.bool si] 4)) (.cells #[.bool fn] 4); rw [s3] at h; exact alloc_get h
  have b4 : ∀ C, ((((w.alloc (.cells #[.bool keep] 4)).alloc (.cells #[.bool mi] 4)).alloc (.cells #[.bool si] 4)).alloc (.cells #[.bool fn] 4)).alloc C = W → W.heap[w.heap.size + 4]? = some C := fun C hC => by
    rw [← hC]; have h := heap_alloc_new ((((w.alloc (.cells #[.bool keep] 4)).alloc (.cells #[.bool mi] 4)).alloc (.cells #[.bool si] 4)).alloc (.cells #[.bool fn] 4)) C; rw [s4] at h; exact h
  have hv := b4 _ hW.symm
  have hn := new_printer (four w.heap.size keep mi si fn) (four_good _ _ _ _ _) (w := W) (a := w.heap.size + 4) (c := 4) (by simp [four]) (fun j o hj => by
    rcases j with _ | _ | _ | _ | j
    · simp only [four, List.getElem?_cons_zero, Option.some.injEq] at hj; subst hj; exact ⟨cell_at hv 0, cell_at b0 0⟩
    · simp only [four, List.getElem?_cons_succ, List.getElem?_cons_zero, Option.some.injEq] at hj; subst hj; exact ⟨cell_at hv 1, cell_at b1 0⟩
    · simp only [four, List.getElem?_cons_succ, List.getElem?_cons_zero, Option.some.injEq] at hj; subst hj; exact ⟨cell_at hv 2, cell_at b2 0⟩
    · simp only [four, List.getElem?_cons_succ, List.getElem?_cons_zero, Option.some.injEq] at hj; subst hj; exact ⟨cell_at hv 3, cell_at b3 0⟩
    · simp [four] at hj)
  have HN := Lib.hid hn
  have HU := Lib.hid hu
  clear hn hu s1 s2 s3 s4 b0 b1 b2 b3 b4 hv
  go_enter Tryz.func9, Tryz.ntmps9
  go_wp2_with (first
    | (go_at_call 27; refine (mk_kp _ _).mono ?_; rintro e w1 ⟨rfl, rfl⟩)
    | (go_at_call 28; refine (mk_mi _ _).mono ?_; rintro e w1 ⟨rfl, rfl⟩)
    | (go_at_call 29; refine (mk_si _ _).mono ?_; rintro e w1 ⟨rfl, rfl⟩)
    | (go_at_call 24; refine (mk_fn _ _).mono ?_; rintro e w1 ⟨rfl, rfl⟩)
    | (go_at_call 21; rw [← hW]; refine HN.out.mono ?_))
  rintro e w2 ⟨pb, b, tb, O, rfl, hA, hO, hu2⟩
  have HA := Lib.hid (And.intro hA (And.intro hO hu2))
  clear hA hO hu2
  go_wp2_with fail
  go_ret
  obtain ⟨hA, hO, hu2⟩ := HA.out
  exact ⟨pb, rfl, b, tb, O, hA, fun k hk => Nat.le_trans HU.out.size (hO k hk), HU.out.trans hu2⟩

set_option maxRecDepth 100000 in
set_option maxHeartbeats 2000000 in
theorem empty_ok {pb b tb : Nat} {s : PS} {w : World} {O : Nat → Prop} (h : PrAny pb b tb s w O) (hkk : s.k ≤ 1073741824) :
    Calls Tryz.prog 10 #[.pointer (some ⟨pb, 0, none⟩), .bool s.mi, .bool s.si] w fun e w' => e = .returned (.bool true) ∧ PrKept pb b tb s O w w' := by
  obtain ⟨Q, HQ, HC⟩ := callsVar (print_empty h hkk)
  clear h
  cases hm : s.mi <;> cases hs : s.si <;> (
  simp only [emptyOut, hm, hs, Bool.and_true, Bool.and_false, Bool.false_and, Bool.true_and, Bool.false_eq_true, if_true, if_false] at HQ
  go_enter Tryz.func10, Tryz.ntmps10
  go_wp2_with (go_at_call 32; refine HC.out.mono ?_)
  rintro e w1 hq
  obtain ⟨rfl, hP⟩ := HQ.out e w1 hq
  clear hq
  have HP := Lib.hid hP
  clear hP
  go_wp2_with fail
  go_ret
  exact ⟨rfl, HP.out⟩)
end Go.Proofs.YtdfgcopelfmcmaaGreatFmt
