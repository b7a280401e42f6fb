/-
  n010_157: a Printer over a bytes.Buffer is built out of a state; its text and its state are read.
-/
import Derived.Test.YtjljnfmacechfaaGreatFmtCa
import Derived.Test.YtjljnfmacechfaaGreatFmtVd
import Derived.Test.YtjljnfmacechfaaGreatFmtNp
namespace Go.Proofs.YtjljnfmacechfaaGreatFmt
open Go.RowKit

/-- The state that is handed in. -/
def stVS (mi si fl mn wn sm : Bool) (ws k lv ln : Nat) : VS := { k := k, bnl := false, swt := false, spr := false, mi := mi, si := si, fnl := false, ws := ws, wn := wn, mn := mn, sm := sm, fl := fl, ln := ln, ll := lv, lv := lv, inc := [], nb := false }
/-- A state as the exported struct holds it. -/
abbrev stC (v : VS) : Array Value := #[.bool v.mi, .bool v.si, .bool false, .bool v.fl, .bool v.mn, .bool v.wn, .bool v.sm, .int .u64 (v.k : Int), .int .u64 (v.ln : Int), .int .u64 (v.lv : Int), .int .u8 (v.ws : Int), .int .i64 0]
abbrev stV (v : VS) : Value := .agg (stC v)

/-- Twelve cells are stored, one after another. -/
theorem stored12 {w : World} {g : Nat} {t : TypeId} {z0 z1 z2 z3 z4 z5 z6 z7 z8 z9 z10 z11 : Value} (hg : w.heap[g]? = some (.cells #[z0, z1, z2, z3, z4, z5, z6, z7, z8, z9, z10, z11] t (0, 0))) (c0 c1 c2 c3 c4 c5 c6 c7 c8 c9 c10 c11 : Value) :
    ((((((((((((w.setCell ⟨g, 0, none⟩ c0).setCell ⟨g, 1, none⟩ c1).setCell ⟨g, 2, none⟩ c2).setCell ⟨g, 3, none⟩ c3).setCell ⟨g, 4, none⟩ c4).setCell ⟨g, 5, none⟩ c5).setCell ⟨g, 6, none⟩ c6).setCell ⟨g, 7, none⟩ c7).setCell ⟨g, 8, none⟩ c8).setCell ⟨g, 9, none⟩ c9).setCell ⟨g, 10, none⟩ c10).setCell ⟨g, 11, none⟩ c11).heap[g]? = some (.cells #[c0, c1, c2, c3, c4, c5, c6, c7, c8, c9, c10, c11] t (0, 0)) := by
  refine (heap_setCell_at _ (heap_setCell_at _ (heap_setCell_at _ (heap_setCell_at _ (heap_setCell_at _ (heap_setCell_at _ (heap_setCell_at _ (heap_setCell_at _ (heap_setCell_at _ (heap_setCell_at _ (heap_setCell_at _ (heap_setCell_at _ hg)))))))))))).trans ?_
  simp
theorem upd12 {w0 w : World} {g : Nat} {F : Nat → Prop} (h : Upd F w0 w) (hg : F g ∨ w0.heap.size ≤ g) (c0 c1 c2 c3 c4 c5 c6 c7 c8 c9 c10 c11 : Value) :
    Upd F w0 ((((((((((((w.setCell ⟨g, 0, none⟩ c0).setCell ⟨g, 1, none⟩ c1).setCell ⟨g, 2, none⟩ c2).setCell ⟨g, 3, none⟩ c3).setCell ⟨g, 4, none⟩ c4).setCell ⟨g, 5, none⟩ c5).setCell ⟨g, 6, none⟩ c6).setCell ⟨g, 7, none⟩ c7).setCell ⟨g, 8, none⟩ c8).setCell ⟨g, 9, none⟩ c9).setCell ⟨g, 10, none⟩ c10).setCell ⟨g, 11, none⟩ c11) := by
  refine Upd.setCell (Upd.setCell (Upd.setCell (Upd.setCell (Upd.setCell (Upd.setCell (Upd.setCell (Upd.setCell (Upd.setCell (Upd.setCell (Upd.setCell (Upd.setCell (h) hg _) hg _) hg _) hg _) hg _) hg _) hg _) hg _) hg _) hg _) hg _) hg _

/-- Two results, the second out of a cell. -/
theorem results_tmp_cell_row {P : Program} {fn : Func} {u p : Tmp} {ty : TypeId} (h : fn.results = #[.tmp u, .cell p ty]) (tmps : Array Value) (w : World) (g : Nat) (t : TypeId) (cs : Array Value) (fr : Nat × Nat) (d : TypeDesc)
    (hp : tmps.getD p undef = .pointer (some ⟨g, 0, none⟩)) (hg : w.heap[g]? = some (.cells cs t fr))
    (hu : P.underlying ty = some d) (hd : (match d with | .struct _ | .array _ _ => true | _ => false) = true) (hi : (P.info? ty).map (·.size) = some cs.size) :
    (results fn tmps).run P w = .ok (.tuple #[tmps.getD u undef, .agg cs]) w := by
  have hp' : tmps[p]?.getD undef = .pointer (some ⟨g, 0, none⟩) := by simpa using hp
  simp [results, h, hp', asAddr, run_loadVar_row w g t ty cs fr d hg hu hd hi]

set_option maxRecDepth 100000 in
set_option maxHeartbeats 2000000 in
theorem zz_state (v : VS) (mi si fl mn wn sm : Bool) (ws k lv ln : Nat) (hv : v = stVS mi si fl mn wn sm ws k lv ln) (w : World) :
    Calls Tryz.prog 7 #[.bool mi, .bool si, .bool false, .bool fl, .bool mn, .bool wn, .bool sm, .int .u8 (ws : Int), .int .u64 (k : Int), .int .u64 (lv : Int), .int .u64 (ln : Int)] w fun e w' => e = .returned (stV v) ∧ Upd (fun _ => False) w w' := by
  subst hv
  go_enter Tryz.func7, Tryz.ntmps7
  go_wp2
  refine bodyPost_ret (results_cell_row rfl _ _ w.heap.size _ _ (0, 0) _ rfl (heap_alloc_new w _) Tryz.underlying28 rfl (by kernel_rfl)) rfl ?_
  exact ⟨rfl, (Upd.refl _ w).alloc _⟩

set_option maxRecDepth 100000 in
set_option maxHeartbeats 2000000 in
theorem zz_badIndent (k lv : Nat) (w : World) :
    Calls Tryz.prog 5 #[.int .u64 (k : Int), .int .u64 (lv : Int)] w fun e w' => e = .returned (.bool (decide (1024 < k ∨ 1024 < lv ∨ 65536 < k * lv))) ∧ w' = w := by
  have hcase : 1024 < k ∨ (k ≤ 1024 ∧ 1024 < lv) ∨ (k ≤ 1024 ∧ lv ≤ 1024 ∧ 65536 < k * lv) ∨ (k ≤ 1024 ∧ lv ≤ 1024 ∧ k * lv ≤ 65536) := by omega
  rcases hcase with h | ⟨h1, h2⟩ | ⟨h1, h2, h3⟩ | ⟨h1, h2, h3⟩
  · have e : decide (1024 < k ∨ 1024 < lv ∨ 65536 < k * lv) = true := by simp [h]
    have hI : (1024 : Int) < (k : Int) := by omega
    rw [e]
    clear h e
    go_enter Tryz.func5, Tryz.ntmps5
    go_wp2
    go_ret
    exact ⟨rfl, rfl⟩
  · have e : decide (1024 < k ∨ 1024 < lv ∨ 65536 < k * lv) = true := by simp [h2]
    have hI : (k : Int) ≤ (1024 : Int) := by omega
    have hJ : (1024 : Int) < (lv : Int) := by omega
    rw [e]
    clear h1 h2 e
    go_enter Tryz.func5, Tryz.ntmps5
    go_wp2
    go_ret
    exact ⟨rfl, rfl⟩
  all_goals
    have hm : k * lv ≤ 1048576 := Nat.le_trans (Nat.mul_le_mul h1 h2) (by decide)
    obtain ⟨n, hn⟩ : ∃ n, n = k * lv := ⟨_, rfl⟩
    have hmul : IntKind.u64.wrap ((k : Int) * (lv : Int)) = (n : Int) := by
      rw [hn, IntKind.wrap_u64, Int.natCast_mul]
      have h1 : (k : Int) * (lv : Int) ≤ 1048576 := by rw [← Int.natCast_mul]; omega
      have h2 : 0 ≤ (k : Int) * (lv : Int) := by rw [← Int.natCast_mul]; omega
      omega
    have hI : (k : Int) ≤ (1024 : Int) := by omega
    have hJ : (lv : Int) ≤ (1024 : Int) := by omega
  · have e : decide (1024 < k ∨ 1024 < lv ∨ 65536 < k * lv) = true := by simp [h3]
    have hN : (65536 : Int) < (n : Int) := by omega
    rw [e]
    clear h1 h2 h3 hm hn e
    go_enter Tryz.func5, Tryz.ntmps5
    go_wp2
    go_ret
    exact ⟨rfl, rfl⟩
  · have e : decide (1024 < k ∨ 1024 < lv ∨ 65536 < k * lv) = false := by
      rw [decide_eq_false_iff_not]
      omega
    have hN : (n : Int) ≤ (65536 : Int) := by omega
    rw [e]
    clear h1 h2 h3 hm hn e
    go_enter Tryz.func5, Tryz.ntmps5
    go_wp2
    go_ret
    exact ⟨by (try simp); (try omega), rfl⟩

set_option maxRecDepth 100000 in
set_option maxHeartbeats 4000000 in
theorem zz_build (v : VS) (hv : v = stVS v.mi v.si v.fl v.mn v.wn v.sm v.ws v.k v.lv v.ln) (w : World) :
    Calls Tryz.prog 11 #[stV v] w fun e w' => ∃ pb k b F, e = .returned (.tuple #[.pointer (some ⟨pb, 0, none⟩), .pointer (some ⟨k, 0, none⟩)]) ∧ PX (bbS k) pb b (.pointer none) ⟨w', F⟩ w' [] v ∧ w.heap.size ≤ pb ∧ (∀ j, F j → w.heap.size ≤ j) ∧ Upd (fun _ => False) w w' := by
  obtain ⟨w1, hw1⟩ : ∃ w1, w1 = (w.alloc (.cells (stC v) 28)).alloc (.cells #[.slice none 0 0, .int .i64 0, .int .i8 0] 84) := ⟨_, rfl⟩
  have hz1 : w1.heap.size = w.heap.size + 2 := by rw [hw1]; simp
  have hx1 : w1.heap[w.heap.size]? = some (.cells (stC v) 28 (0, 0)) := by rw [hw1]; exact heap_alloc2_old w _ _
  have hy1 : w1.heap[w.heap.size + 1]? = some (.cells #[.slice none 0 0, .int .i64 0, .int .i8 0] 84 (0, 0)) := by rw [hw1]; exact heap_alloc2_new w _ _
  have hu1 : Upd (fun _ => False) w w1 := by rw [hw1]; exact ((Upd.refl _ w).alloc _).alloc _
  have hn := nw_any (bb_law (w.heap.size + 1)) (bb_nobw (w.heap.size + 1)) (bb_new hy1)
  rw [hw1] at hn
  have HN := Lib.hid hn
  have HX1 := Lib.hid (And.intro hz1 (And.intro hx1 (And.intro hy1 hu1)))
  have HW1 := Lib.hid hw1
  have HV := Lib.hid hv
  clear hn hz1 hx1 hy1 hu1 hw1 hv
  go_enter Tryz.func11, Tryz.ntmps11
  go_wp2_with (go_at_call 17; refine HN.out.mono ?_; rintro e w2 ⟨b, F2, rfl, hB, hb, hF, hu⟩
               have hu12 : Upd (fun _ => False) w1 w2 := by rw [HW1.out]; exact hu
               have hx2 := hu12.heap HX1.out.2.1 fun h => h
               have s0 : w2.cell? ⟨w.heap.size, 0, none⟩ = some (.bool v.mi) := cell_at hx2 0
               have s1 : w2.cell? ⟨w.heap.size, 1, none⟩ = some (.bool v.si) := cell_at hx2 1
               have s2 : w2.cell? ⟨w.heap.size, 2, none⟩ = some (.bool false) := cell_at hx2 2
               have s3 : w2.cell? ⟨w.heap.size, 3, none⟩ = some (.bool v.fl) := cell_at hx2 3
               have s4 : w2.cell? ⟨w.heap.size, 4, none⟩ = some (.bool v.mn) := cell_at hx2 4
               have s5 : w2.cell? ⟨w.heap.size, 5, none⟩ = some (.bool v.wn) := cell_at hx2 5
               have s6 : w2.cell? ⟨w.heap.size, 6, none⟩ = some (.bool v.sm) := cell_at hx2 6
               have s7 : w2.cell? ⟨w.heap.size, 7, none⟩ = some (.int .u64 (v.k : Int)) := cell_at hx2 7
               have s8 : w2.cell? ⟨w.heap.size, 8, none⟩ = some (.int .u64 (v.ln : Int)) := cell_at hx2 8
               have s9 : w2.cell? ⟨w.heap.size, 9, none⟩ = some (.int .u64 (v.lv : Int)) := cell_at hx2 9
               have s10 : w2.cell? ⟨w.heap.size, 10, none⟩ = some (.int .u8 (v.ws : Int)) := cell_at hx2 10
               have hl2 := heap_lt hx2
               have HB := Lib.hid (And.intro hB (And.intro hb (And.intro hF hu12)))
               clear hB hb hF hu hu12 hx2)
  go_wp2_with fail
  go_ret2
  obtain ⟨hB, hb, hF, hu12⟩ := HB.out
  have hz : w1.heap.size = w.heap.size + 2 := HX1.out.1
  have hz2 := hu12.size
  have hFl : ∀ j, F2 j → j < w2.heap.size := hB.lt (bb_law _)
  have hF' : ∀ j, F2 j → w.heap.size ≤ j := fun j hj => by
    rcases hF j hj with h | h
    · omega
    · have : w1.heap.size ≤ j := by rw [HW1.out]; exact h
      omega
  have hu3 : Upd (fun _ => False) w2 (w2.alloc (.cells ((v.ps ⟨none, 0, none, 0, none, 0, .pointer none⟩).cells (.iface 85 (.pointer (some ⟨b, 0, none⟩))) (.pointer none) (.pointer none)) 95)) := (Upd.refl _ w2).alloc _
  have hp3 := heap_alloc_new w2 (.cells ((v.ps ⟨none, 0, none, 0, none, 0, .pointer none⟩).cells (.iface 85 (.pointer (some ⟨b, 0, none⟩))) (.pointer none) (.pointer none)) 95)
  have hPX := PW.px (T := bbS (w.heap.size + 1)) (pb := w2.heap.size) (b := b) (tv := .pointer none) (F := F2) (l := []) (s := v.ps ⟨none, 0, none, 0, none, 0, .pointer none⟩) (v := v) (h := ⟨none, 0, none, 0, none, 0, .pointer none⟩) ⟨hp3, ⟨[], [], hB.stable (bb_law _) hu3 (fun _ _ h => h), rfl⟩, fun e => by have := hFl _ e; omega⟩ rfl (by rw [HV.out]; rfl) ⟨rfl, rfl⟩
  have hbnl : v.bnl = false := by rw [HV.out]; rfl
  have hswt : v.swt = false := by rw [HV.out]; rfl
  have hspr : v.spr = false := by rw [HV.out]; rfl
  have hfnl : v.fnl = false := by rw [HV.out]; rfl
  have hll : v.ll = v.lv := by rw [HV.out]; rfl
  have hinc : v.inc = [] := by rw [HV.out]; rfl
  have hnb : v.nb = false := by rw [HV.out]; rfl
  simp only [PS.cells, VS.ps, hbnl, hswt, hspr, hfnl, hll, hinc, hnb, List.length_nil] at hPX hu3
  exact ⟨w2.heap.size, w.heap.size + 1, b, F2, rfl, hPX, by omega, hF', (HX1.out.2.2.2.trans hu12).trans hu3⟩

end Go.Proofs.YtjljnfmacechfaaGreatFmt
