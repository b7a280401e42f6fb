/-
  n010_157: statements of the eight kinds are made; which of them end in a parenthesis.
-/
import Derived.Test.YtjljnfmacechfaaGreatFmtGr
import Derived.Test.YtjljnfmacechfaaGreatFmtMf
namespace Go.Proofs.YtjljnfmacechfaaGreatFmt
open Go.RowKit

/-- Which kinds end in a parenthesis. -/
def endK (k : Nat) : Bool := decide (1 ≤ k) && decide (k ≤ 3)

section
set_option maxRecDepth 100000
theorem er_sub (x : Value) (w : World) : Calls Tryz.prog 18 #[.iface 50 x] w fun e w' => e = .returned (.bool true) ∧ w = w' := by
  have hta1 := fun w => asrt_other (P := Tryz.prog) Tryz.underlying35 (by kernel_rfl) (t := 50) (by decide) 109 x w
  have hta2 := fun w => asrt_other (P := Tryz.prog) Tryz.underlying63 (by kernel_rfl) (t := 50) (by decide) 109 x w
  have hta3 := fun w => asrt_same (P := Tryz.prog) Tryz.underlying50 109 x w
  go_enter Tryz.func18, Tryz.ntmps18
  go_wp2_with fail
  go_ret
  exact ⟨rfl, rfl⟩
theorem er_ari (x : Value) (w : World) : Calls Tryz.prog 18 #[.iface 58 x] w fun e w' => e = .returned (.bool true) ∧ w = w' := by
  have hta1 := fun w => asrt_other (P := Tryz.prog) Tryz.underlying35 (by kernel_rfl) (t := 58) (by decide) 109 x w
  have hta2 := fun w => asrt_other (P := Tryz.prog) Tryz.underlying63 (by kernel_rfl) (t := 58) (by decide) 109 x w
  have hta3 := fun w => asrt_other (P := Tryz.prog) Tryz.underlying50 (by kernel_rfl) (t := 58) (by decide) 109 x w
  have hta4 := fun w => asrt_same (P := Tryz.prog) Tryz.underlying58 109 x w
  go_enter Tryz.func18, Tryz.ntmps18
  go_wp2_with fail
  go_ret
  exact ⟨rfl, rfl⟩
theorem er_call (x : Value) (w : World) : Calls Tryz.prog 18 #[.iface 65 x] w fun e w' => e = .returned (.bool false) ∧ w = w' := by
  have hta1 := fun w => asrt_other (P := Tryz.prog) Tryz.underlying35 (by kernel_rfl) (t := 65) (by decide) 109 x w
  have hta2 := fun w => asrt_other (P := Tryz.prog) Tryz.underlying63 (by kernel_rfl) (t := 65) (by decide) 109 x w
  have hta3 := fun w => asrt_other (P := Tryz.prog) Tryz.underlying50 (by kernel_rfl) (t := 65) (by decide) 109 x w
  have hta4 := fun w => asrt_other (P := Tryz.prog) Tryz.underlying58 (by kernel_rfl) (t := 65) (by decide) 109 x w
  go_enter Tryz.func18, Tryz.ntmps18
  go_wp2_with fail
  go_ret
  exact ⟨rfl, rfl⟩
theorem er_blk (x : Value) (w : World) : Calls Tryz.prog 18 #[.iface 78 x] w fun e w' => e = .returned (.bool false) ∧ w = w' := by
  have hta1 := fun w => asrt_other (P := Tryz.prog) Tryz.underlying35 (by kernel_rfl) (t := 78) (by decide) 109 x w
  have hta2 := fun w => asrt_other (P := Tryz.prog) Tryz.underlying63 (by kernel_rfl) (t := 78) (by decide) 109 x w
  have hta3 := fun w => asrt_other (P := Tryz.prog) Tryz.underlying50 (by kernel_rfl) (t := 78) (by decide) 109 x w
  have hta4 := fun w => asrt_other (P := Tryz.prog) Tryz.underlying58 (by kernel_rfl) (t := 78) (by decide) 109 x w
  go_enter Tryz.func18, Tryz.ntmps18
  go_wp2_with fail
  go_ret
  exact ⟨rfl, rfl⟩

/-- The statement that the laws make. -/
def kStO (cmd : Value) (bg : Bool) (rd : Value) : Obj := .cells #[.slice none 0 0, cmd, .int .u32 0, .int .u32 0, .int .u32 0, .int .u32 0, .bool false, .bool bg, .bool false, .bool false, rd] 57 (0, 0)

theorem er_stmt {sb : Nat} {cmd : Value} {r : Bool} {w : World} (h : w.heap[sb]? = some (kStO cmd false (.slice none 0 0))) (hc : Calls Tryz.prog 18 #[cmd] w fun e w' => e = .returned (.bool r) ∧ w = w') :
    Calls Tryz.prog 18 #[.iface 35 (.pointer (some ⟨sb, 0, none⟩))] w fun e w' => e = .returned (.bool r) ∧ w = w' := by
  have hta1 := fun w => asrt_same (P := Tryz.prog) Tryz.underlying35 109 (.pointer (some ⟨sb, 0, none⟩)) w
  have c1 : w.cell? ⟨sb, 1, none⟩ = some cmd := cell_at h 1
  have c7 : w.cell? ⟨sb, 7, none⟩ = some (.bool false) := cell_at h 7
  have c8 : w.cell? ⟨sb, 8, none⟩ = some (.bool false) := cell_at h 8
  have c9 : w.cell? ⟨sb, 9, none⟩ = some (.bool false) := cell_at h 9
  have c10 : w.cell? ⟨sb, 10, none⟩ = some (.slice none 0 0) := cell_at h 10
  have HC := Lib.hid hc
  clear h hc
  go_enter Tryz.func18, Tryz.ntmps18
  go_wp2_with (go_at_call 18; refine HC.out.mono ?_; rintro e w1 ⟨rfl, rfl⟩)
  go_ret
  exact ⟨rfl, rfl⟩
theorem er_stmt_bg {sb : Nat} {cmd : Value} {w : World} (h : w.heap[sb]? = some (kStO cmd true (.slice none 0 0))) :
    Calls Tryz.prog 18 #[.iface 35 (.pointer (some ⟨sb, 0, none⟩))] w fun e w' => e = .returned (.bool false) ∧ w = w' := by
  have hta1 := fun w => asrt_same (P := Tryz.prog) Tryz.underlying35 109 (.pointer (some ⟨sb, 0, none⟩)) w
  have c7 : w.cell? ⟨sb, 7, none⟩ = some (.bool true) := cell_at h 7
  clear h
  go_enter Tryz.func18, Tryz.ntmps18
  go_wp2_with fail
  go_ret
  exact ⟨rfl, rfl⟩
theorem er_stmt_rd {sb : Nat} {cmd : Value} {a : Option Addr} {w : World} (h : w.heap[sb]? = some (kStO cmd false (.slice a 1 1))) :
    Calls Tryz.prog 18 #[.iface 35 (.pointer (some ⟨sb, 0, none⟩))] w fun e w' => e = .returned (.bool false) ∧ w = w' := by
  have hta1 := fun w => asrt_same (P := Tryz.prog) Tryz.underlying35 109 (.pointer (some ⟨sb, 0, none⟩)) w
  have c7 : w.cell? ⟨sb, 7, none⟩ = some (.bool false) := cell_at h 7
  have c8 : w.cell? ⟨sb, 8, none⟩ = some (.bool false) := cell_at h 8
  have c9 : w.cell? ⟨sb, 9, none⟩ = some (.bool false) := cell_at h 9
  have c10 : w.cell? ⟨sb, 10, none⟩ = some (.slice a 1 1) := cell_at h 10
  clear h
  go_enter Tryz.func18, Tryz.ntmps18
  go_wp2_with fail
  go_ret
  exact ⟨rfl, rfl⟩
theorem er_bin {xb : Nat} {yb : Nat} {r : Bool} {c0 c1 c2 c3 : Value} {w : World} (h : w.heap[xb]? = some (.cells #[c0, c1, c2, c3, .pointer (some ⟨yb, 0, none⟩)] 71 (0, 0)))
    (hc : Calls Tryz.prog 18 #[.iface 35 (.pointer (some ⟨yb, 0, none⟩))] w fun e w' => e = .returned (.bool r) ∧ w = w') :
    Calls Tryz.prog 18 #[.iface 63 (.pointer (some ⟨xb, 0, none⟩))] w fun e w' => e = .returned (.bool r) ∧ w = w' := by
  have hta1 := fun w => asrt_other (P := Tryz.prog) Tryz.underlying35 (by kernel_rfl) (t := 63) (by decide) 109 (.pointer (some ⟨xb, 0, none⟩)) w
  have hta2 := fun w => asrt_same (P := Tryz.prog) Tryz.underlying63 109 (.pointer (some ⟨xb, 0, none⟩)) w
  have e4 : w.cell? ⟨xb, 4, none⟩ = some (.pointer (some ⟨yb, 0, none⟩)) := cell_at h 4
  have HC := Lib.hid hc
  clear h hc
  go_enter Tryz.func18, Tryz.ntmps18
  go_wp2_with (go_at_call 18; refine HC.out.mono ?_; rintro e w1 ⟨rfl, rfl⟩)
  go_ret
  exact ⟨rfl, rfl⟩
end

/-- What is known of a statement of kind k: asked behind any change elsewhere, endsWithRparen answers so. -/
def KSt (lo : Nat) (w : World) (sb k : Nat) : Prop := ∃ hi, hi ≤ w.heap.size ∧ ∀ W : World, (∀ j, lo ≤ j → j < hi → W.heap[j]? = w.heap[j]?) → Calls Tryz.prog 18 #[.iface 35 (.pointer (some ⟨sb, 0, none⟩))] W fun e w' => e = .returned (.bool (endK k)) ∧ W = w'

theorem allocs_at (objs : List Obj) (w : World) (i : Nat) {o : Obj} (h : objs[i]? = some o) : (objs.foldl World.alloc w).heap[w.heap.size + i]? = some o := by
  induction objs generalizing w i with
  | nil => simp at h
  | cons x r ih =>
    rcases i with _ | i
    · simp only [List.getElem?_cons_zero, Option.some.injEq] at h
      subst h
      have h1 : ∀ (r : List Obj) (W : World), w.heap.size < W.heap.size → W.heap[w.heap.size]? = some x → (r.foldl World.alloc W).heap[w.heap.size]? = some x := by
        intro r
        induction r with
        | nil => exact fun W _ h => h
        | cons y r ih => exact fun W hW h => ih (W.alloc y) (by simp; omega) ((Below.heap_alloc W y _ hW).trans h)
      exact h1 r (w.alloc x) (by simp) (heap_alloc_new w x)
    · have h2 := ih (w.alloc x) i (by simpa using h)
      rw [show (w.alloc x).heap.size + i = w.heap.size + (i + 1) by simp; omega] at h2
      exact h2
theorem allocs_at4 (w : World) (a b c d : Obj) (i : Nat) {o : Obj} (h : [a, b, c, d][i]? = some o) : ((((w.alloc a).alloc b).alloc c).alloc d).heap[w.heap.size + i]? = some o := allocs_at [a, b, c, d] w i h
theorem allocs_at6 (w : World) (a b c d e f : Obj) (i : Nat) {o : Obj} (h : [a, b, c, d, e, f][i]? = some o) : ((((((w.alloc a).alloc b).alloc c).alloc d).alloc e).alloc f).heap[w.heap.size + i]? = some o := allocs_at [a, b, c, d, e, f] w i h
set_option maxRecDepth 100000 in
set_option maxHeartbeats 4000000 in
theorem z_kind (k : Nat) (w : World) : Calls Tryz.prog 10 #[.int .u8 (k : Int)] w fun e w' => ∃ sb, e = .returned (.pointer (some ⟨sb, 0, none⟩)) ∧ KSt w.heap.size w' sb k ∧ Upd (fun _ => False) w w' := by
  have hcase : k = 1 ∨ k = 2 ∨ k = 3 ∨ k = 4 ∨ k = 5 ∨ k = 6 ∨ (k ≠ 1 ∧ k ≠ 2 ∧ k ≠ 3 ∧ k ≠ 4 ∧ k ≠ 5 ∧ k ≠ 6) := by omega
  rcases hcase with rfl | rfl | rfl | rfl | rfl | rfl | ⟨h1, h2, h3, h4, h5, h6⟩
  · go_enter Tryz.func10, Tryz.ntmps10
    go_wp2
    go_ret
    refine ⟨w.heap.size + 1, rfl, ⟨w.heap.size + 2, by simp, fun W hW => ?_⟩, ((Upd.refl _ w).alloc _).alloc _⟩
    have hs : W.heap[w.heap.size + 1]? = some (kStO (.iface 50 (.pointer (some ⟨w.heap.size, 0, none⟩))) false (.slice none 0 0)) := (hW _ (by omega) (by omega)).trans (heap_alloc2_new w _ _)
    exact er_stmt hs (er_sub _ W)
  · go_enter Tryz.func10, Tryz.ntmps10
    go_wp2
    go_ret
    refine ⟨w.heap.size + 1, rfl, ⟨w.heap.size + 2, by simp, fun W hW => ?_⟩, ((Upd.refl _ w).alloc _).alloc _⟩
    have hs : W.heap[w.heap.size + 1]? = some (kStO (.iface 58 (.pointer (some ⟨w.heap.size, 0, none⟩))) false (.slice none 0 0)) := (hW _ (by omega) (by omega)).trans (heap_alloc2_new w _ _)
    exact er_stmt hs (er_ari _ W)
  · go_enter Tryz.func10, Tryz.ntmps10
    go_wp2
    go_ret
    refine ⟨w.heap.size + 5, rfl, ⟨w.heap.size + 6, by simp, fun W hW => ?_⟩, ((((((Upd.refl _ w).alloc _).alloc _).alloc _).alloc _).alloc _).alloc _⟩
    have hy : W.heap[w.heap.size + 3]? = some (kStO (.iface 50 (.pointer (some ⟨w.heap.size + 2, 0, none⟩))) false (.slice none 0 0)) := (hW _ (by omega) (by omega)).trans (allocs_at6 w _ _ _ _ _ _ 3 rfl)
    have hb : W.heap[w.heap.size + 4]? = some (.cells #[.int .u32 0, .int .u32 0, .int .u32 11, .pointer (some ⟨w.heap.size + 1, 0, none⟩), .pointer (some ⟨w.heap.size + 3, 0, none⟩)] 71 (0, 0)) := (hW _ (by omega) (by omega)).trans (allocs_at6 w _ _ _ _ _ _ 4 rfl)
    have hs : W.heap[w.heap.size + 5]? = some (kStO (.iface 63 (.pointer (some ⟨w.heap.size + 4, 0, none⟩))) false (.slice none 0 0)) := (hW _ (by omega) (by omega)).trans (allocs_at6 w _ _ _ _ _ _ 5 rfl)
    exact er_stmt hs (er_bin hb (er_stmt hy (er_sub _ W)))
  · go_enter Tryz.func10, Tryz.ntmps10
    go_wp2
    go_ret
    refine ⟨w.heap.size + 1, rfl, ⟨w.heap.size + 2, by simp, fun W hW => ?_⟩, ((Upd.refl _ w).alloc _).alloc _⟩
    have hs : W.heap[w.heap.size + 1]? = some (kStO (.iface 50 (.pointer (some ⟨w.heap.size, 0, none⟩))) true (.slice none 0 0)) := (hW _ (by omega) (by omega)).trans (heap_alloc2_new w _ _)
    exact er_stmt_bg hs
  · go_enter Tryz.func10, Tryz.ntmps10
    go_wp2
    go_ret
    refine ⟨w.heap.size + 3, rfl, ⟨w.heap.size + 4, by simp, fun W hW => ?_⟩, ((((Upd.refl _ w).alloc _).alloc _).alloc _).alloc _⟩
    have hs : W.heap[w.heap.size + 3]? = some (kStO (.iface 50 (.pointer (some ⟨w.heap.size, 0, none⟩))) false (.slice (some ⟨w.heap.size + 2, 0, none⟩) 1 1)) := (hW _ (by omega) (by omega)).trans (allocs_at4 w _ _ _ _ 3 rfl)
    exact er_stmt_rd hs
  · go_enter Tryz.func10, Tryz.ntmps10
    go_wp2
    go_ret
    refine ⟨w.heap.size + 1, rfl, ⟨w.heap.size + 2, by simp, fun W hW => ?_⟩, ((Upd.refl _ w).alloc _).alloc _⟩
    have hs : W.heap[w.heap.size + 1]? = some (kStO (.iface 78 (.pointer (some ⟨w.heap.size, 0, none⟩))) false (.slice none 0 0)) := (hW _ (by omega) (by omega)).trans (heap_alloc2_new w _ _)
    exact er_stmt hs (er_blk _ W)
  · have e : endK k = false := by
      unfold endK
      rw [Bool.and_eq_false_iff]
      simp only [decide_eq_false_iff_not]
      omega
    have g1 : ((k : Int) == 1) = false := by rw [beq_eq_false_iff_ne]; omega
    have g2 : ((k : Int) == 2) = false := by rw [beq_eq_false_iff_ne]; omega
    have g3 : ((k : Int) == 3) = false := by rw [beq_eq_false_iff_ne]; omega
    have g4 : ((k : Int) == 4) = false := by rw [beq_eq_false_iff_ne]; omega
    have g5 : ((k : Int) == 5) = false := by rw [beq_eq_false_iff_ne]; omega
    have g6 : ((k : Int) == 6) = false := by rw [beq_eq_false_iff_ne]; omega
    clear h1 h2 h3 h4 h5 h6
    go_enter Tryz.func10, Tryz.ntmps10
    go_wp2
    go_ret
    refine ⟨w.heap.size + 1, rfl, ⟨w.heap.size + 2, by simp, fun W hW => ?_⟩, ((Upd.refl _ w).alloc _).alloc _⟩
    have hs : W.heap[w.heap.size + 1]? = some (kStO (.iface 65 (.pointer (some ⟨w.heap.size, 0, none⟩))) false (.slice none 0 0)) := (hW _ (by omega) (by omega)).trans (heap_alloc2_new w _ _)
    rw [e]
    exact er_stmt hs (er_call _ W)
end Go.Proofs.YtjljnfmacechfaaGreatFmt
