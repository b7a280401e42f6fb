/-
  bytes.Buffer behind a bufio.Writer: what the Printer asks of it; Reset.
  n010_157: a Printer over a bytes.Buffer is built out of a state; its text and its state are read.
  n010_157: the text and the state of a Printer are read.
-/
import Derived.Test.YtmdkpihlhdjjaaaGreatFmtKMf
import Derived.Test.YtmdkpihlhdjjaaaGreatFmtKBufDX
import Derived.Test.YtmdkpihlhdjjaaaGreatFmtKMbX
import Derived.Test.YtmdkpihlhdjjaaaGreatFmtKSbbBX
import Derived.Test.YtmdkpihlhdjjaaaGreatFmtKVd
import Derived.Test.YtmdkpihlhdjjaaaGreatFmtKMaX
namespace Go.Proofs.YtmdkpihlhdjjaaaGreatFmt
open Go.RowKit

theorem bb_swr (k : Nat) : (bbS k).SWr Tryz.prog 561 258 where
  ta := fun w => by kernel_rfl
  meth := fun w => by kernel_rfl
  ahead := fun w => by kernel_rfl
  enters := fun args w => by kernel_rfl
  wstr := fun t h _ hl => bb_writeString t h hl

theorem bb_wstr (k : Nat) : (bbS k).WStr Tryz.prog := by
  intro b w F l s h hk hl
  exact ws_sw (bb_law k) (bb_swr k) s h hk hl

theorem bb_tok (k : Nat) : TOk (bbS k) := ⟨bb_law k, bb_wstr k, fun _ _ => rfl⟩

theorem bb_nobw (k : Nat) : (bbS k).NoBW Tryz.prog := fun w => by kernel_rfl

theorem bb_new {w : World} {k : Nat} (h : w.heap[k]? = some (.cells #[.slice none 0 0, .int .i64 0, .int .i8 0] 131 (0, 0))) : bbI k w (fun j => j = k) [] :=
  ⟨_, _, h, Row.nil w, by simp [Value.ownBlock], fun j => by simp [Value.ownBlock]⟩

theorem bbI.self {b : Nat} {w : World} {F : Nat → Prop} {l : List UInt8} (h : bbI b w F l) : F b := by
  obtain ⟨v, lr, hb, hv, hne, hF⟩ := h
  exact (hF b).2 (.inl rfl)

set_option maxHeartbeats 1000000 in
set_option maxRecDepth 100000 in
theorem bb_reset {b : Nat} {w : World} {F : Nat → Prop} {l : List UInt8} (h : bbI b w F l) :
    Calls Tryz.prog 126 #[.pointer (some ⟨b, 0, none⟩)] w fun e w' => e = .returned (.tuple #[]) ∧ bbI b w' F [] ∧ Upd (fun k => k = b) w w' := by
  obtain ⟨v, lr, hb, hv, hne, hF⟩ := h
  have c0 : w.cell? ⟨b, 0, none⟩ = some v := cell_at hb 0
  have f0 : w.frozen? ⟨b, 0, none⟩ = false := frozen_at hb 0
  obtain ⟨vo, vc, hvf⟩ := hv.form
  have hb1 := heap_setCell_at (i := 0) (.slice vo 0 vc) hb
  have c1 : (w.setCell ⟨b, 0, none⟩ (.slice vo 0 vc)).cell? ⟨b, 1, none⟩ = some (.int .i64 0) := cell_at hb1 1
  have f1 : (w.setCell ⟨b, 0, none⟩ (.slice vo 0 vc)).frozen? ⟨b, 1, none⟩ = false := frozen_at hb1 1
  have hb2 := heap_setCell_at (i := 1) (.int .i64 0) hb1
  have c2 : ((w.setCell ⟨b, 0, none⟩ (.slice vo 0 vc)).setCell ⟨b, 1, none⟩ (.int .i64 0)).cell? ⟨b, 2, none⟩ = some (.int .i8 lr) := cell_at hb2 2
  have f2 : ((w.setCell ⟨b, 0, none⟩ (.slice vo 0 vc)).setCell ⟨b, 1, none⟩ (.int .i64 0)).frozen? ⟨b, 2, none⟩ = false := frozen_at hb2 2
  subst hvf
  have hob : ∀ n m, (Value.slice vo n vc).ownBlock = (Value.slice vo m vc).ownBlock := fun n m => by cases vo <;> rfl
  have hend : bbI b (((w.setCell ⟨b, 0, none⟩ (.slice vo 0 vc)).setCell ⟨b, 1, none⟩ (.int .i64 0)).setCell ⟨b, 2, none⟩ (.int .i8 0)) F [] := by
    refine ⟨.slice vo 0 vc, 0, (heap_setCell_at _ hb2).trans (by simp), ?_, ?_, ?_⟩
    · refine ⟨by simp, ?_⟩
      rcases hv.2 with ⟨h1, h0⟩ | ⟨g, cap, cur, h1, h2, hg, hnc, hcm, hcs, htk⟩
      · injection h1 with h1 h3 h4
        subst h1 h4
        exact .inl ⟨rfl, rfl⟩
      · injection h1 with h1 h3 h4
        subst h1 h4
        have hgb : ¬ g = b := fun e => hne (by rw [e]; rfl)
        exact .inr ⟨g, _, cur, rfl, h2, (Below.heap_setCell _ _ _ _ hgb).trans ((Below.heap_setCell _ _ _ _ hgb).trans ((Below.heap_setCell _ _ _ _ hgb).trans hg)), Nat.zero_le _, hcm, hcs, by simp⟩
    · rw [hob 0 l.length]; exact hne
    · intro j
      rw [hob 0 l.length]
      exact hF j
  have hu : Upd (fun k => k = b) w (((w.setCell ⟨b, 0, none⟩ (.slice vo 0 vc)).setCell ⟨b, 1, none⟩ (.int .i64 0)).setCell ⟨b, 2, none⟩ (.int .i8 0)) :=
    (((Upd.refl (fun k => k = b) w).setCell (p := ⟨b, 0, none⟩) (.inl rfl) _).setCell (p := ⟨b, 1, none⟩) (.inl rfl) _).setCell (p := ⟨b, 2, none⟩) (.inl rfl) _
  have HU := Lib.hid (And.intro hend hu)
  clear hb hb1 hb2 hv hne hF hu hend
  go_enter Tryz.func126, Tryz.ntmps126
  go_wp2
  go_end0
  exact ⟨rfl, HU.out⟩
end Go.Proofs.YtmdkpihlhdjjaaaGreatFmt

namespace Go.Proofs.YtmdkpihlhdjjaaaGreatFmt
open Go.RowKit

/-- The state that is handed in. -/
def stVS (mi si fl mn wn sm : Bool) (ws k lv ln : Nat) : VS := { k := k, bnl := false, swt := false, spr := false, mi := mi, si := si, fnl := false, ws := ws, wn := wn, mn := mn, sm := sm, fl := fl, ln := ln, ll := lv, lv := lv, inc := [], nb := false }
/-- A state as the exported struct holds it. -/
abbrev stC (v : VS) : Array Value := #[.bool v.mi, .bool v.si, .bool false, .bool v.fl, .bool v.mn, .bool v.wn, .bool v.sm, .int .u64 (v.k : Int), .int .u64 (v.ln : Int), .int .u64 (v.lv : Int), .int .u8 (v.ws : Int), .int .i64 0]
abbrev stV (v : VS) : Value := .agg (stC v)

/-- Twelve cells are stored, one after another. -/
theorem stored12 {w : World} {g : Nat} {t : TypeId} {z0 z1 z2 z3 z4 z5 z6 z7 z8 z9 z10 z11 : Value} (hg : w.heap[g]? = some (.cells #[z0, z1, z2, z3, z4, z5, z6, z7, z8, z9, z10, z11] t (0, 0))) (c0 c1 c2 c3 c4 c5 c6 c7 c8 c9 c10 c11 : Value) :
    ((((((((((((w.setCell ⟨g, 0, none⟩ c0).setCell ⟨g, 1, none⟩ c1).setCell ⟨g, 2, none⟩ c2).setCell ⟨g, 3, none⟩ c3).setCell ⟨g, 4, none⟩ c4).setCell ⟨g, 5, none⟩ c5).setCell ⟨g, 6, none⟩ c6).setCell ⟨g, 7, none⟩ c7).setCell ⟨g, 8, none⟩ c8).setCell ⟨g, 9, none⟩ c9).setCell ⟨g, 10, none⟩ c10).setCell ⟨g, 11, none⟩ c11).heap[g]? = some (.cells #[c0, c1, c2, c3, c4, c5, c6, c7, c8, c9, c10, c11] t (0, 0)) := by
  refine (heap_setCell_at _ (heap_setCell_at _ (heap_setCell_at _ (heap_setCell_at _ (heap_setCell_at _ (heap_setCell_at _ (heap_setCell_at _ (heap_setCell_at _ (heap_setCell_at _ (heap_setCell_at _ (heap_setCell_at _ (heap_setCell_at _ hg)))))))))))).trans ?_
  simp
theorem upd12 {w0 w : World} {g : Nat} {F : Nat → Prop} (h : Upd F w0 w) (hg : F g ∨ w0.heap.size ≤ g) (c0 c1 c2 c3 c4 c5 c6 c7 c8 c9 c10 c11 : Value) :
    Upd F w0 ((((((((((((w.setCell ⟨g, 0, none⟩ c0).setCell ⟨g, 1, none⟩ c1).setCell ⟨g, 2, none⟩ c2).setCell ⟨g, 3, none⟩ c3).setCell ⟨g, 4, none⟩ c4).setCell ⟨g, 5, none⟩ c5).setCell ⟨g, 6, none⟩ c6).setCell ⟨g, 7, none⟩ c7).setCell ⟨g, 8, none⟩ c8).setCell ⟨g, 9, none⟩ c9).setCell ⟨g, 10, none⟩ c10).setCell ⟨g, 11, none⟩ c11) := by
  refine Upd.setCell (Upd.setCell (Upd.setCell (Upd.setCell (Upd.setCell (Upd.setCell (Upd.setCell (Upd.setCell (Upd.setCell (Upd.setCell (Upd.setCell (Upd.setCell (h) hg _) hg _) hg _) hg _) hg _) hg _) hg _) hg _) hg _) hg _) hg _) hg _

/-- Two results, the second out of a cell. -/
theorem results_tmp_cell_row {P : Program} {fn : Func} {u p : Tmp} {ty : TypeId} (h : fn.results = #[.tmp u, .cell p ty]) (tmps : Array Value) (w : World) (g : Nat) (t : TypeId) (cs : Array Value) (fr : Nat × Nat) (d : TypeDesc)
    (hp : tmps.getD p undef = .pointer (some ⟨g, 0, none⟩)) (hg : w.heap[g]? = some (.cells cs t fr))
    (hu : P.underlying ty = some d) (hd : (match d with | .struct _ | .array _ _ => true | _ => false) = true) (hi : (P.info? ty).map (·.size) = some cs.size) :
    (results fn tmps).run P w = .ok (.tuple #[tmps.getD u undef, .agg cs]) w := by
  have hp' : tmps[p]?.getD undef = .pointer (some ⟨g, 0, none⟩) := by simpa using hp
  simp [results, h, hp', asAddr, run_loadVar_row w g t ty cs fr d hg hu hd hi]

set_option maxRecDepth 100000 in
set_option maxHeartbeats 2000000 in
theorem zz_state (v : VS) (mi si fl mn wn sm : Bool) (ws k lv ln : Nat) (hv : v = stVS mi si fl mn wn sm ws k lv ln) (w : World) :
    Calls Tryz.prog 17 #[.bool mi, .bool si, .bool false, .bool fl, .bool mn, .bool wn, .bool sm, .int .u8 (ws : Int), .int .u64 (k : Int), .int .u64 (lv : Int), .int .u64 (ln : Int)] w fun e w' => e = .returned (stV v) ∧ Upd (fun _ => False) w w' := by
  subst hv
  go_enter Tryz.func17, Tryz.ntmps17
  go_wp2
  refine bodyPost_ret (results_cell_row rfl _ _ w.heap.size _ _ (0, 0) _ rfl (heap_alloc_new w _) Tryz.underlying50 rfl (by kernel_rfl)) rfl ?_
  exact ⟨rfl, (Upd.refl _ w).alloc _⟩

set_option maxRecDepth 100000 in
set_option maxHeartbeats 2000000 in
theorem zz_badIndent (k lv : Nat) (w : World) :
    Calls Tryz.prog 49 #[.int .u64 (k : Int), .int .u64 (lv : Int)] w fun e w' => e = .returned (.bool (decide (1024 < k ∨ 1024 < lv ∨ 65536 < k * lv))) ∧ w' = w := by
  have hcase : 1024 < k ∨ (k ≤ 1024 ∧ 1024 < lv) ∨ (k ≤ 1024 ∧ lv ≤ 1024 ∧ 65536 < k * lv) ∨ (k ≤ 1024 ∧ lv ≤ 1024 ∧ k * lv ≤ 65536) := by omega
  rcases hcase with h | ⟨h1, h2⟩ | ⟨h1, h2, h3⟩ | ⟨h1, h2, h3⟩
  · have e : decide (1024 < k ∨ 1024 < lv ∨ 65536 < k * lv) = true := by simp [h]
    have hI : (1024 : Int) < (k : Int) := by omega
    rw [e]
    clear h e
    go_enter Tryz.func49, Tryz.ntmps49
    go_wp2
    go_ret
    exact ⟨rfl, rfl⟩
  · have e : decide (1024 < k ∨ 1024 < lv ∨ 65536 < k * lv) = true := by simp [h2]
    have hI : (k : Int) ≤ (1024 : Int) := by omega
    have hJ : (1024 : Int) < (lv : Int) := by omega
    rw [e]
    clear h1 h2 e
    go_enter Tryz.func49, Tryz.ntmps49
    go_wp2
    go_ret
    exact ⟨rfl, rfl⟩
  all_goals
    have hm : k * lv ≤ 1048576 := Nat.le_trans (Nat.mul_le_mul h1 h2) (by decide)
    obtain ⟨n, hn⟩ : ∃ n, n = k * lv := ⟨_, rfl⟩
    have hmul : IntKind.u64.wrap ((k : Int) * (lv : Int)) = (n : Int) := by
      rw [hn, IntKind.wrap_u64, Int.natCast_mul]
      have h1 : (k : Int) * (lv : Int) ≤ 1048576 := by rw [← Int.natCast_mul]; omega
      have h2 : 0 ≤ (k : Int) * (lv : Int) := by rw [← Int.natCast_mul]; omega
      omega
    have hI : (k : Int) ≤ (1024 : Int) := by omega
    have hJ : (lv : Int) ≤ (1024 : Int) := by omega
  · have e : decide (1024 < k ∨ 1024 < lv ∨ 65536 < k * lv) = true := by simp [h3]
    have hN : (65536 : Int) < (n : Int) := by omega
    rw [e]
    clear h1 h2 h3 hm hn e
    go_enter Tryz.func49, Tryz.ntmps49
    go_wp2
    go_ret
    exact ⟨rfl, rfl⟩
  · have e : decide (1024 < k ∨ 1024 < lv ∨ 65536 < k * lv) = false := by
      rw [decide_eq_false_iff_not]
      omega
    have hN : (n : Int) ≤ (65536 : Int) := by omega
    rw [e]
    clear h1 h2 h3 hm hn e
    go_enter Tryz.func49, Tryz.ntmps49
    go_wp2
    go_ret
    exact ⟨by (try simp); (try omega), rfl⟩

set_option maxRecDepth 100000 in
set_option maxHeartbeats 4000000 in
theorem zz_build (v : VS) (hv : v = stVS v.mi v.si v.fl v.mn v.wn v.sm v.ws v.k v.lv v.ln) (w : World) :
    Calls Tryz.prog 50 #[stV v] w fun e w' => ∃ pb k b F, e = .returned (.tuple #[.pointer (some ⟨pb, 0, none⟩), .pointer (some ⟨k, 0, none⟩)]) ∧ PX (bbS k) pb b (.pointer none) ⟨w', F⟩ w' [] v ∧ w.heap.size ≤ pb ∧ (∀ j, F j → w.heap.size ≤ j) ∧ Upd (fun _ => False) w w' := by
  obtain ⟨w1, hw1⟩ : ∃ w1, w1 = (w.alloc (.cells (stC v) 50)).alloc (.cells #[.slice none 0 0, .int .i64 0, .int .i8 0] 131) := ⟨_, rfl⟩
  have hz1 : w1.heap.size = w.heap.size + 2 := by rw [hw1]; simp
  have hx1 : w1.heap[w.heap.size]? = some (.cells (stC v) 50 (0, 0)) := by rw [hw1]; exact heap_alloc2_old w _ _
  have hy1 : w1.heap[w.heap.size + 1]? = some (.cells #[.slice none 0 0, .int .i64 0, .int .i8 0] 131 (0, 0)) := by rw [hw1]; exact heap_alloc2_new w _ _
  have hu1 : Upd (fun _ => False) w w1 := by rw [hw1]; exact ((Upd.refl _ w).alloc _).alloc _
  have hn := nw_any (bb_law (w.heap.size + 1)) (bb_nobw (w.heap.size + 1)) (bb_new hy1)
  rw [hw1] at hn
  have HN := Lib.hid hn
  have HX1 := Lib.hid (And.intro hz1 (And.intro hx1 (And.intro hy1 hu1)))
  have HW1 := Lib.hid hw1
  have HV := Lib.hid hv
  clear hn hz1 hx1 hy1 hu1 hw1 hv
  go_enter Tryz.func50, Tryz.ntmps50
  go_wp2_with (go_at_call 30; refine HN.out.mono ?_; rintro e w2 ⟨b, F2, rfl, hB, hb, hF, hu⟩
               have hu12 : Upd (fun _ => False) w1 w2 := by rw [HW1.out]; exact hu
               have hx2 := hu12.heap HX1.out.2.1 fun h => h
               have s0 : w2.cell? ⟨w.heap.size, 0, none⟩ = some (.bool v.mi) := cell_at hx2 0
               have s1 : w2.cell? ⟨w.heap.size, 1, none⟩ = some (.bool v.si) := cell_at hx2 1
               have s2 : w2.cell? ⟨w.heap.size, 2, none⟩ = some (.bool false) := cell_at hx2 2
               have s3 : w2.cell? ⟨w.heap.size, 3, none⟩ = some (.bool v.fl) := cell_at hx2 3
               have s4 : w2.cell? ⟨w.heap.size, 4, none⟩ = some (.bool v.mn) := cell_at hx2 4
               have s5 : w2.cell? ⟨w.heap.size, 5, none⟩ = some (.bool v.wn) := cell_at hx2 5
               have s6 : w2.cell? ⟨w.heap.size, 6, none⟩ = some (.bool v.sm) := cell_at hx2 6
               have s7 : w2.cell? ⟨w.heap.size, 7, none⟩ = some (.int .u64 (v.k : Int)) := cell_at hx2 7
               have s8 : w2.cell? ⟨w.heap.size, 8, none⟩ = some (.int .u64 (v.ln : Int)) := cell_at hx2 8
               have s9 : w2.cell? ⟨w.heap.size, 9, none⟩ = some (.int .u64 (v.lv : Int)) := cell_at hx2 9
               have s10 : w2.cell? ⟨w.heap.size, 10, none⟩ = some (.int .u8 (v.ws : Int)) := cell_at hx2 10
               have hl2 := heap_lt hx2
               have HB := Lib.hid (And.intro hB (And.intro hb (And.intro hF hu12)))
               clear hB hb hF hu hu12 hx2)
  go_wp2_with fail
  go_ret2
  obtain ⟨hB, hb, hF, hu12⟩ := HB.out
  have hz : w1.heap.size = w.heap.size + 2 := HX1.out.1
  have hz2 := hu12.size
  have hFl : ∀ j, F2 j → j < w2.heap.size := hB.lt (bb_law _)
  have hF' : ∀ j, F2 j → w.heap.size ≤ j := fun j hj => by
    rcases hF j hj with h | h
    · omega
    · have : w1.heap.size ≤ j := by rw [HW1.out]; exact h
      omega
  have hu3 : Upd (fun _ => False) w2 (w2.alloc (.cells ((v.ps ⟨none, 0, none, 0, none, 0, .pointer none⟩).cells (.iface 71 (.pointer (some ⟨b, 0, none⟩))) (.pointer none) (.pointer none)) 92)) := (Upd.refl _ w2).alloc _
  have hp3 := heap_alloc_new w2 (.cells ((v.ps ⟨none, 0, none, 0, none, 0, .pointer none⟩).cells (.iface 71 (.pointer (some ⟨b, 0, none⟩))) (.pointer none) (.pointer none)) 92)
  have hPX := PW.px (T := bbS (w.heap.size + 1)) (pb := w2.heap.size) (b := b) (tv := .pointer none) (F := F2) (l := []) (s := v.ps ⟨none, 0, none, 0, none, 0, .pointer none⟩) (v := v) (h := ⟨none, 0, none, 0, none, 0, .pointer none⟩) ⟨hp3, ⟨[], [], hB.stable (bb_law _) hu3 (fun _ _ h => h), rfl⟩, fun e => by have := hFl _ e; omega⟩ rfl (by rw [HV.out]; rfl) ⟨rfl, rfl⟩
  have hbnl : v.bnl = false := by rw [HV.out]; rfl
  have hswt : v.swt = false := by rw [HV.out]; rfl
  have hspr : v.spr = false := by rw [HV.out]; rfl
  have hfnl : v.fnl = false := by rw [HV.out]; rfl
  have hll : v.ll = v.lv := by rw [HV.out]; rfl
  have hinc : v.inc = [] := by rw [HV.out]; rfl
  have hnb : v.nb = false := by rw [HV.out]; rfl
  simp only [PS.cells, VS.ps, hbnl, hswt, hspr, hfnl, hll, hinc, hnb, List.length_nil] at hPX hu3
  exact ⟨w2.heap.size, w.heap.size + 1, b, F2, rfl, hPX, by omega, hF', (HX1.out.2.2.2.trans hu12).trans hu3⟩

end Go.Proofs.YtmdkpihlhdjjaaaGreatFmt

namespace Go.Proofs.YtmdkpihlhdjjaaaGreatFmt
open Go.RowKit

set_option maxRecDepth 100000 in
set_option maxHeartbeats 4000000 in
theorem zz_read {pb k b : Nat} {tv : Value} {B : Base} {w : World} {l : List UInt8} {v : VS} (h : PX (bbS k) pb b tv B w l v) (hl : l.length ≤ LIM) :
    Calls Tryz.prog 52 #[.pointer (some ⟨pb, 0, none⟩), .pointer (some ⟨k, 0, none⟩)] w fun e w' => e = .returned (.tuple #[.string ⟨l.toArray⟩, stV v]) ∧ PX (bbS k) pb b tv B w' [] v := by
  obtain ⟨F, hh, x⟩ := h
  have hm := bw_meth_fl b
  have ha := bw_ahead_fl b
  obtain ⟨w1, hw1⟩ : ∃ w1, w1 = w.alloc (.cells #[.bool false, .bool false, .bool false, .bool false, .bool false, .bool false, .bool false, .int .u64 0, .int .u64 0, .int .u64 0, .int .u8 0, .int .i64 0] 50) := ⟨_, rfl⟩
  have hu1 : Upd (fun _ => False) w w1 := by rw [hw1]; exact (Upd.refl _ w).alloc _
  have hr1 : w1.heap[w.heap.size]? = some (.cells #[.bool false, .bool false, .bool false, .bool false, .bool false, .bool false, .bool false, .int .u64 0, .int .u64 0, .int .u64 0, .int .u8 0, .int .i64 0] 50 (0, 0)) := by rw [hw1]; exact heap_alloc_new w _
  have hz1 : w1.heap.size = w.heap.size + 1 := by rw [hw1]; simp
  have hFl : ∀ j, F j → j < w.heap.size := x.buf.lt (bb_law k)
  obtain ⟨inner, pend, hP, hip⟩ := x.buf.stable (bb_law k) hu1 fun _ _ h => h
  have hfl := flush_any (bb_law k) hP (by rw [hip, List.length_append] at hl; exact hl)
  rw [← hip] at hfl
  have c0 : w1.cell? ⟨pb, 0, none⟩ = some (.iface 71 (.pointer (some ⟨b, 0, none⟩))) := (x.cell.keep hu1 fun h => h).at 0
  obtain ⟨Q1, HQ1, HF⟩ := callsVar hfl
  have HW := Lib.hid (And.intro hu1 (And.intro hr1 (And.intro hz1 hFl)))
  have HXr := Lib.hid x
  rw [hw1] at HF c0
  have HW1 := Lib.hid hw1
  clear hu1 hr1 hz1 hFl hP hfl hip hl hw1 x
  go_enter Tryz.func52, Tryz.ntmps52
  go_wp2_with (go_at_call 239; refine HF.out.mono ?_)
  rintro e w2 hq
  obtain ⟨rfl, F2, hP2, hF2, hu2⟩ := HQ1.out e w2 hq
  clear hq
  obtain ⟨g, cur, Fs, hb, hg, h1, h2, h3, h4, hI, h5, h6, h7, hF⟩ := hP2
  have HSt := Lib.hid (bb_string hI)
  have HP2 := Lib.hid (And.intro hb (And.intro hg (And.intro h1 (And.intro hI (And.intro h5 (And.intro h6 (And.intro h7 (And.intro hF (And.intro hF2 hu2)))))))))
  clear hb hg h1 h2 h3 h4 hI h5 h6 h7 hF hF2 hu2
  go_wp2_with (go_at_call 125; refine HSt.out.mono ?_; rintro e w3 ⟨rfl, hu3⟩
               have HRs := Lib.hid (bb_reset ((bb_law k).stable HP2.out.2.2.2.1 hu3 fun _ _ h => h))
               have HU3 := Lib.hid hu3
               clear hu3)
  go_wp2_with (go_at_call 126; refine HRs.out.mono ?_; rintro e w4 ⟨rfl, hI4, hu4⟩
               have HI4 := Lib.hid (And.intro hI4 hu4)
               clear hI4 hu4)
  have hkF : Fs k := bbI.self HP2.out.2.2.2.1
  have hU14 : Upd F w1 w4 := (HP2.out.2.2.2.2.2.2.2.2.2.trans (HU3.out.mono fun _ h => h.elim)).trans' (HI4.out.2) (fun j hj => by subst hj; exact HP2.out.2.2.2.2.2.2.2.2.1 _ ((HP2.out.2.2.2.2.2.2.2.1 _).2 (.inr (.inr hkF))))
  have hU : Upd F w w4 := (HW.out.1.mono fun _ h => h.elim).trans hU14
  have hp4 := HXr.out.cell.keep hU HXr.out.np
  have hr4 := hU14.heap HW.out.2.1 (fun hf => by have := HW.out.2.2.2 _ hf; omega)
  have q5 : w4.cell? ⟨pb, 5, none⟩ = some (.int .u64 (v.k : Int)) := hp4.at 5
  have q9 : w4.cell? ⟨pb, 9, none⟩ = some (.bool false) := hp4.at 9
  have q10 : w4.cell? ⟨pb, 10, none⟩ = some (.bool v.mi) := hp4.at 10
  have q11 : w4.cell? ⟨pb, 11, none⟩ = some (.bool v.si) := hp4.at 11
  have q13 : w4.cell? ⟨pb, 13, none⟩ = some (.int .u8 (v.ws : Int)) := hp4.at 13
  have q14 : w4.cell? ⟨pb, 14, none⟩ = some (.bool v.wn) := hp4.at 14
  have q15 : w4.cell? ⟨pb, 15, none⟩ = some (.bool v.mn) := hp4.at 15
  have q16 : w4.cell? ⟨pb, 16, none⟩ = some (.bool v.sm) := hp4.at 16
  have q17 : w4.cell? ⟨pb, 17, none⟩ = some (.slice hh.pca 0 hh.pcc) := hp4.at 17
  have q18 : w4.cell? ⟨pb, 18, none⟩ = some (.bool v.fl) := hp4.at 18
  have q19 : w4.cell? ⟨pb, 19, none⟩ = some (.int .u64 (v.ln : Int)) := hp4.at 19
  have q21 : w4.cell? ⟨pb, 21, none⟩ = some (.int .u64 (v.lv : Int)) := hp4.at 21
  have y0 : w4.cell? ⟨w.heap.size, 0, none⟩ = some (.bool false) := cell_at hr4 0
  have fy0 : w4.frozen? ⟨w.heap.size, 0, none⟩ = false := frozen_at hr4 0
  have y1 : w4.cell? ⟨w.heap.size, 1, none⟩ = some (.bool false) := cell_at hr4 1
  have fy1 : w4.frozen? ⟨w.heap.size, 1, none⟩ = false := frozen_at hr4 1
  have y2 : w4.cell? ⟨w.heap.size, 2, none⟩ = some (.bool false) := cell_at hr4 2
  have fy2 : w4.frozen? ⟨w.heap.size, 2, none⟩ = false := frozen_at hr4 2
  have y3 : w4.cell? ⟨w.heap.size, 3, none⟩ = some (.bool false) := cell_at hr4 3
  have fy3 : w4.frozen? ⟨w.heap.size, 3, none⟩ = false := frozen_at hr4 3
  have y4 : w4.cell? ⟨w.heap.size, 4, none⟩ = some (.bool false) := cell_at hr4 4
  have fy4 : w4.frozen? ⟨w.heap.size, 4, none⟩ = false := frozen_at hr4 4
  have y5 : w4.cell? ⟨w.heap.size, 5, none⟩ = some (.bool false) := cell_at hr4 5
  have fy5 : w4.frozen? ⟨w.heap.size, 5, none⟩ = false := frozen_at hr4 5
  have y6 : w4.cell? ⟨w.heap.size, 6, none⟩ = some (.bool false) := cell_at hr4 6
  have fy6 : w4.frozen? ⟨w.heap.size, 6, none⟩ = false := frozen_at hr4 6
  have y7 : w4.cell? ⟨w.heap.size, 7, none⟩ = some (.int .u64 0) := cell_at hr4 7
  have fy7 : w4.frozen? ⟨w.heap.size, 7, none⟩ = false := frozen_at hr4 7
  have y8 : w4.cell? ⟨w.heap.size, 8, none⟩ = some (.int .u64 0) := cell_at hr4 8
  have fy8 : w4.frozen? ⟨w.heap.size, 8, none⟩ = false := frozen_at hr4 8
  have y9 : w4.cell? ⟨w.heap.size, 9, none⟩ = some (.int .u64 0) := cell_at hr4 9
  have fy9 : w4.frozen? ⟨w.heap.size, 9, none⟩ = false := frozen_at hr4 9
  have y10 : w4.cell? ⟨w.heap.size, 10, none⟩ = some (.int .u8 0) := cell_at hr4 10
  have fy10 : w4.frozen? ⟨w.heap.size, 10, none⟩ = false := frozen_at hr4 10
  have y11 : w4.cell? ⟨w.heap.size, 11, none⟩ = some (.int .i64 0) := cell_at hr4 11
  have fy11 : w4.frozen? ⟨w.heap.size, 11, none⟩ = false := frozen_at hr4 11
  have hlp := heap_lt HXr.out.cell
  have hUS0 := (upd12 (g := w.heap.size) (Upd.refl (fun j => j = w.heap.size) w4) (.inl rfl) (.bool v.mi) (.bool v.si) (.bool false) (.bool v.fl) (.bool v.mn) (.bool v.wn) (.bool v.sm) (.int .u64 (v.k : Int)) (.int .u64 (v.ln : Int)) (.int .u64 (v.lv : Int)) (.int .u8 (v.ws : Int)) (.int .i64 0)).drew
  have hp5 := hp4.keep hUS0 (by omega)
  have HU := Lib.hid (And.intro hU (And.intro hU14 (And.intro hp4 (And.intro hr4 hkF))))
  have HP5 := Lib.hid hp5
  clear hU hU14 hp4 hr4 hkF hUS0 hp5
  go_wp2_with fail
  refine wp_region_held_drew (S := fun W => W.cell? ⟨pb, 5, none⟩ = some (.int .u64 (v.k : Int)) ∧ W.cell? ⟨pb, 9, none⟩ = some (.bool false) ∧ W.cell? ⟨pb, 10, none⟩ = some (.bool v.mi) ∧ W.cell? ⟨pb, 11, none⟩ = some (.bool v.si) ∧ W.cell? ⟨pb, 13, none⟩ = some (.int .u8 (v.ws : Int)) ∧ W.cell? ⟨pb, 14, none⟩ = some (.bool v.wn) ∧ W.cell? ⟨pb, 15, none⟩ = some (.bool v.mn) ∧ W.cell? ⟨pb, 16, none⟩ = some (.bool v.sm) ∧ W.cell? ⟨pb, 17, none⟩ = some (.slice hh.pca 0 hh.pcc) ∧ W.cell? ⟨pb, 18, none⟩ = some (.bool v.fl) ∧ W.cell? ⟨pb, 19, none⟩ = some (.int .u64 (v.ln : Int)) ∧ W.cell? ⟨pb, 21, none⟩ = some (.int .u64 (v.lv : Int))) (by kernel_rfl) ⟨q5, q9, q10, q11, q13, q14, q15, q16, q17, q18, q19, q21⟩ (fun hHeld => ?_)
  refine wpAnyH_take (i := 0) (v := ?v0) rfl (by kernel_rfl) (by kernel_rfl) (by kernel_rfl) (fun _ _ _ h => h) (Or.inl ⟨by rfl, ?h0⟩) (by assumption) ?r0
  case h0 => (intro w hSw; (try dsimp only at hSw); go_simp; try with_reducible rfl)
  try simp only [List.getElem_toArray, List.getElem_cons_zero, Act.put, List.setIfInBounds_toArray, List.set_cons_zero, List.set_cons_succ]
  refine wpAnyH_take (i := 1) (v := ?v1) rfl (by kernel_rfl) (by kernel_rfl) (by kernel_rfl) (fun _ _ _ h => h) (Or.inl ⟨by rfl, ?h1⟩) (by assumption) ?r1
  case h1 => (intro w hSw; (try dsimp only at hSw); go_simp; try with_reducible rfl)
  try simp only [List.getElem_toArray, List.getElem_cons_zero, List.getElem_cons_succ, Act.put, List.setIfInBounds_toArray, List.set_cons_zero, List.set_cons_succ]
  refine wpAnyH_take (i := 2) (v := ?v2) rfl (by kernel_rfl) (by kernel_rfl) (by kernel_rfl) (fun _ _ _ h => h) (Or.inl ⟨by rfl, ?h2⟩) (by assumption) ?r2
  case h2 => (intro w hSw; (try dsimp only at hSw); go_simp; try with_reducible rfl)
  try simp only [List.getElem_toArray, List.getElem_cons_zero, List.getElem_cons_succ, Act.put, List.setIfInBounds_toArray, List.set_cons_zero, List.set_cons_succ]
  refine wpAnyH_take (i := 3) (v := ?v3) rfl (by kernel_rfl) (by kernel_rfl) (by kernel_rfl) (fun _ _ _ h => h) (Or.inl ⟨by rfl, ?h3⟩) (by assumption) ?r3
  case h3 => (intro w hSw; (try dsimp only at hSw); go_simp; try with_reducible rfl)
  try simp only [List.getElem_toArray, List.getElem_cons_zero, List.getElem_cons_succ, Act.put, List.setIfInBounds_toArray, List.set_cons_zero, List.set_cons_succ]
  refine wpAnyH_take (i := 4) (v := ?v4) rfl (by kernel_rfl) (by kernel_rfl) (by kernel_rfl) (fun _ _ _ h => h) (Or.inl ⟨by rfl, ?h4⟩) (by assumption) ?r4
  case h4 => (intro w hSw; (try dsimp only at hSw); go_simp; try with_reducible rfl)
  try simp only [List.getElem_toArray, List.getElem_cons_zero, List.getElem_cons_succ, Act.put, List.setIfInBounds_toArray, List.set_cons_zero, List.set_cons_succ]
  refine wpAnyH_take (i := 5) (v := ?v5) rfl (by kernel_rfl) (by kernel_rfl) (by kernel_rfl) (fun _ _ _ h => h) (Or.inl ⟨by rfl, ?h5⟩) (by assumption) ?r5
  case h5 => (intro w hSw; (try dsimp only at hSw); go_simp; try with_reducible rfl)
  try simp only [List.getElem_toArray, List.getElem_cons_zero, List.getElem_cons_succ, Act.put, List.setIfInBounds_toArray, List.set_cons_zero, List.set_cons_succ]
  refine wpAnyH_take (i := 6) (v := ?v6) rfl (by kernel_rfl) (by kernel_rfl) (by kernel_rfl) (fun _ _ _ h => h) (Or.inl ⟨by rfl, ?h6⟩) (by assumption) ?r6
  case h6 => (intro w hSw; (try dsimp only at hSw); go_simp; try with_reducible rfl)
  try simp only [List.getElem_toArray, List.getElem_cons_zero, List.getElem_cons_succ, Act.put, List.setIfInBounds_toArray, List.set_cons_zero, List.set_cons_succ]
  refine wpAnyH_take (i := 7) (v := ?v7) rfl (by kernel_rfl) (by kernel_rfl) (by kernel_rfl) (fun _ _ _ h => h) (Or.inl ⟨by rfl, ?h7⟩) (by assumption) ?r7
  case h7 => (intro w hSw; (try dsimp only at hSw); go_simp; try with_reducible rfl)
  try simp only [List.getElem_toArray, List.getElem_cons_zero, List.getElem_cons_succ, Act.put, List.setIfInBounds_toArray, List.set_cons_zero, List.set_cons_succ]
  refine wpAnyH_take (i := 8) (v := ?v8) rfl (by kernel_rfl) (by kernel_rfl) (by kernel_rfl) (fun _ _ _ h => h) (Or.inl ⟨by rfl, ?h8⟩) (by assumption) ?r8
  case h8 => (intro w hSw; (try dsimp only at hSw); go_simp; try with_reducible rfl)
  try simp only [List.getElem_toArray, List.getElem_cons_zero, List.getElem_cons_succ, Act.put, List.setIfInBounds_toArray, List.set_cons_zero, List.set_cons_succ]
  refine wpAnyH_take (i := 9) (v := ?v9) rfl (by kernel_rfl) (by kernel_rfl) (by kernel_rfl) (fun _ _ _ h => h) (Or.inl ⟨by rfl, ?h9⟩) (by assumption) ?r9
  case h9 => (intro w hSw; (try dsimp only at hSw); go_simp; try with_reducible rfl)
  try simp only [List.getElem_toArray, List.getElem_cons_zero, List.getElem_cons_succ, Act.put, List.setIfInBounds_toArray, List.set_cons_zero, List.set_cons_succ]
  refine wpAnyH_take (i := 10) (v := ?v10) rfl (by kernel_rfl) (by kernel_rfl) (by kernel_rfl) (fun _ _ _ h => h) (Or.inl ⟨by rfl, ?h10⟩) (by assumption) ?r10
  case h10 => (intro w hSw; (try dsimp only at hSw); go_simp; try with_reducible rfl)
  try simp only [List.getElem_toArray, List.getElem_cons_zero, List.getElem_cons_succ, Act.put, List.setIfInBounds_toArray, List.set_cons_zero, List.set_cons_succ]
  refine wpAnyH_take (i := 11) (v := ?v11) rfl (by kernel_rfl) (by kernel_rfl) (by kernel_rfl) (fun _ _ _ h => h) (Or.inl ⟨by rfl, ?h11⟩) (by assumption) ?r11
  case h11 => (intro w hSw; (try dsimp only at hSw); go_simp; try with_reducible rfl)
  try simp only [List.getElem_toArray, List.getElem_cons_zero, List.getElem_cons_succ, Act.put, List.setIfInBounds_toArray, List.set_cons_zero, List.set_cons_succ]
  refine wpAnyH_take (i := 12) (v := ?v12) rfl (by kernel_rfl) (by kernel_rfl) (by kernel_rfl) (fun _ _ _ h => h) (Or.inl ⟨by rfl, ?h12⟩) (by assumption) ?r12
  case h12 => (intro w hSw; (try dsimp only at hSw); go_simp; try with_reducible rfl)
  try simp only [List.getElem_toArray, List.getElem_cons_zero, List.getElem_cons_succ, Act.put, List.setIfInBounds_toArray, List.set_cons_zero, List.set_cons_succ]
  refine wpAnyH_take (i := 13) (v := ?v13) rfl (by kernel_rfl) (by kernel_rfl) (by kernel_rfl) (fun _ _ _ h => h) (Or.inl ⟨by rfl, ?h13⟩) (by assumption) ?r13
  case h13 => (intro w hSw; (try dsimp only at hSw); go_simp; try with_reducible rfl)
  try simp only [List.getElem_toArray, List.getElem_cons_zero, List.getElem_cons_succ, Act.put, List.setIfInBounds_toArray, List.set_cons_zero, List.set_cons_succ]
  refine wpAnyH_take (i := 14) (v := ?v14) rfl (by kernel_rfl) (by kernel_rfl) (by kernel_rfl) (fun _ _ _ h => h) (Or.inl ⟨by rfl, ?h14⟩) (by assumption) ?r14
  case h14 => (intro w hSw; (try dsimp only at hSw); go_simp; try with_reducible rfl)
  try simp only [List.getElem_toArray, List.getElem_cons_zero, List.getElem_cons_succ, Act.put, List.setIfInBounds_toArray, List.set_cons_zero, List.set_cons_succ]
  refine wpAnyH_take (i := 15) (v := ?v15) rfl (by kernel_rfl) (by kernel_rfl) (by kernel_rfl) (fun _ _ _ h => h) (Or.inl ⟨by rfl, ?h15⟩) (by assumption) ?r15
  case h15 => (intro w hSw; (try dsimp only at hSw); go_simp; try with_reducible rfl)
  try simp only [List.getElem_toArray, List.getElem_cons_zero, List.getElem_cons_succ, Act.put, List.setIfInBounds_toArray, List.set_cons_zero, List.set_cons_succ]
  refine wpAnyH_take (i := 16) (v := ?v16) rfl (by kernel_rfl) (by kernel_rfl) (by kernel_rfl) (fun _ _ _ h => h) (Or.inl ⟨by rfl, ?h16⟩) (by assumption) ?r16
  case h16 => (intro w hSw; (try dsimp only at hSw); go_simp; try with_reducible rfl)
  try simp only [List.getElem_toArray, List.getElem_cons_zero, List.getElem_cons_succ, Act.put, List.setIfInBounds_toArray, List.set_cons_zero, List.set_cons_succ]
  refine wpAnyH_take (i := 17) (v := ?v17) rfl (by kernel_rfl) (by kernel_rfl) (by kernel_rfl) (fun _ _ _ h => h) (Or.inl ⟨by rfl, ?h17⟩) (by assumption) ?r17
  case h17 => (intro w hSw; (try dsimp only at hSw); go_simp; try with_reducible rfl)
  try simp only [List.getElem_toArray, List.getElem_cons_zero, List.getElem_cons_succ, Act.put, List.setIfInBounds_toArray, List.set_cons_zero, List.set_cons_succ]
  refine wpAnyH_take (i := 18) (v := ?v18) rfl (by kernel_rfl) (by kernel_rfl) (by kernel_rfl) (fun _ _ _ h => h) (Or.inl ⟨by rfl, ?h18⟩) (by assumption) ?r18
  case h18 => (intro w hSw; (try dsimp only at hSw); go_simp; try with_reducible rfl)
  try simp only [List.getElem_toArray, List.getElem_cons_zero, List.getElem_cons_succ, Act.put, List.setIfInBounds_toArray, List.set_cons_zero, List.set_cons_succ]
  refine wpAnyH_take (i := 19) (v := ?v19) rfl (by kernel_rfl) (by kernel_rfl) (by kernel_rfl) (fun _ _ _ h => h) (Or.inl ⟨by rfl, ?h19⟩) (by assumption) ?r19
  case h19 => (intro w hSw; (try dsimp only at hSw); go_simp; try with_reducible rfl)
  try simp only [List.getElem_toArray, List.getElem_cons_zero, List.getElem_cons_succ, Act.put, List.setIfInBounds_toArray, List.set_cons_zero, List.set_cons_succ]
  refine wpAnyH_take (i := 20) (v := ?v20) rfl (by kernel_rfl) (by kernel_rfl) (by kernel_rfl) (fun _ _ _ h => h) (Or.inl ⟨by rfl, ?h20⟩) (by assumption) ?r20
  case h20 => (intro w hSw; (try dsimp only at hSw); go_simp; try with_reducible rfl)
  try simp only [List.getElem_toArray, List.getElem_cons_zero, List.getElem_cons_succ, Act.put, List.setIfInBounds_toArray, List.set_cons_zero, List.set_cons_succ]
  refine wpAnyH_take (i := 21) (v := ?v21) rfl (by kernel_rfl) (by kernel_rfl) (by kernel_rfl) (fun _ _ _ h => h) (Or.inl ⟨by rfl, ?h21⟩) (by assumption) ?r21
  case h21 => (intro w hSw; (try dsimp only at hSw); go_simp; try with_reducible rfl)
  try simp only [List.getElem_toArray, List.getElem_cons_zero, List.getElem_cons_succ, Act.put, List.setIfInBounds_toArray, List.set_cons_zero, List.set_cons_succ]
  refine wpAnyH_take (i := 22) (v := ?v22) rfl (by kernel_rfl) (by kernel_rfl) (by kernel_rfl) (fun _ _ _ h => h) (Or.inl ⟨by rfl, ?h22⟩) (by assumption) ?r22
  case h22 => (intro w hSw; (try dsimp only at hSw); go_simp; try with_reducible rfl)
  try simp only [List.getElem_toArray, List.getElem_cons_zero, List.getElem_cons_succ, Act.put, List.setIfInBounds_toArray, List.set_cons_zero, List.set_cons_succ]
  refine wpAnyH_take (i := 23) (v := ?v23) rfl (by kernel_rfl) (by kernel_rfl) (by kernel_rfl) (fun _ _ _ h => h) (Or.inl ⟨by rfl, ?h23⟩) (by assumption) ?r23
  case h23 => (intro w hSw; (try dsimp only at hSw); go_simp; try with_reducible rfl)
  try simp only [List.getElem_toArray, List.getElem_cons_zero, List.getElem_cons_succ, Act.put, List.setIfInBounds_toArray, List.set_cons_zero, List.set_cons_succ]
  refine wpAnyH_take (i := 24) (v := ?v24) rfl (by kernel_rfl) (by kernel_rfl) (by kernel_rfl) (fun _ _ _ h => h) (Or.inl ⟨by rfl, ?h24⟩) (by assumption) ?r24
  case h24 => (intro w hSw; (try dsimp only at hSw); go_simp; try with_reducible rfl)
  try simp only [List.getElem_toArray, List.getElem_cons_zero, List.getElem_cons_succ, Act.put, List.setIfInBounds_toArray, List.set_cons_zero, List.set_cons_succ]
  refine wpAnyH_take (i := 25) (v := ?v25) rfl (by kernel_rfl) (by kernel_rfl) (by kernel_rfl) (fun _ _ _ h => h) (Or.inl ⟨by rfl, ?h25⟩) (by assumption) ?r25
  case h25 => (intro w hSw; (try dsimp only at hSw); go_simp; try with_reducible rfl)
  try simp only [List.getElem_toArray, List.getElem_cons_zero, List.getElem_cons_succ, Act.put, List.setIfInBounds_toArray, List.set_cons_zero, List.set_cons_succ]
  refine wpAnyH_take (i := 26) (v := ?v26) rfl (by kernel_rfl) (by kernel_rfl) (by kernel_rfl) (fun _ _ _ h => h) (Or.inl ⟨by rfl, ?h26⟩) (by assumption) ?r26
  case h26 => (intro w hSw; (try dsimp only at hSw); go_simp; try with_reducible rfl)
  try simp only [List.getElem_toArray, List.getElem_cons_zero, List.getElem_cons_succ, Act.put, List.setIfInBounds_toArray, List.set_cons_zero, List.set_cons_succ]
  refine wpAnyH_take (i := 27) (v := ?v27) rfl (by kernel_rfl) (by kernel_rfl) (by kernel_rfl) (fun _ _ _ h => h) (Or.inl ⟨by rfl, ?h27⟩) (by assumption) ?r27
  case h27 => (intro w hSw; (try dsimp only at hSw); go_simp; try with_reducible rfl)
  try simp only [List.getElem_toArray, List.getElem_cons_zero, List.getElem_cons_succ, Act.put, List.setIfInBounds_toArray, List.set_cons_zero, List.set_cons_succ]
  refine wpAnyH_take (i := 28) (v := ?v28) rfl (by kernel_rfl) (by kernel_rfl) (by kernel_rfl) (fun _ _ _ h => h) (Or.inl ⟨by rfl, ?h28⟩) (by assumption) ?r28
  case h28 => (intro w hSw; (try dsimp only at hSw); go_simp; try with_reducible rfl)
  try simp only [List.getElem_toArray, List.getElem_cons_zero, List.getElem_cons_succ, Act.put, List.setIfInBounds_toArray, List.set_cons_zero, List.set_cons_succ]
  refine wpAnyH_take (i := 29) (v := ?v29) rfl (by kernel_rfl) (by kernel_rfl) (by kernel_rfl) (fun _ _ _ h => h) (Or.inl ⟨by rfl, ?h29⟩) (by assumption) ?r29
  case h29 => (intro w hSw; (try dsimp only at hSw); go_simp; try with_reducible rfl)
  try simp only [List.getElem_toArray, List.getElem_cons_zero, List.getElem_cons_succ, Act.put, List.setIfInBounds_toArray, List.set_cons_zero, List.set_cons_succ]
  refine wpAnyH_take (i := 30) (v := ?v30) rfl (by kernel_rfl) (by kernel_rfl) (by kernel_rfl) (fun _ _ _ h => h) (Or.inl ⟨by rfl, ?h30⟩) (by assumption) ?r30
  case h30 => (intro w hSw; (try dsimp only at hSw); go_simp; try with_reducible rfl)
  try simp only [List.getElem_toArray, List.getElem_cons_zero, List.getElem_cons_succ, Act.put, List.setIfInBounds_toArray, List.set_cons_zero, List.set_cons_succ]
  refine wpAnyH_take (i := 31) (v := ?v31) rfl (by kernel_rfl) (by kernel_rfl) (by kernel_rfl) (fun _ _ _ h => h) (Or.inl ⟨by rfl, ?h31⟩) (by assumption) ?r31
  case h31 => (intro w hSw; (try dsimp only at hSw); go_simp; try with_reducible rfl)
  try simp only [List.getElem_toArray, List.getElem_cons_zero, List.getElem_cons_succ, Act.put, List.setIfInBounds_toArray, List.set_cons_zero, List.set_cons_succ]
  refine wpAnyH_take (i := 32) (v := ?v32) rfl (by kernel_rfl) (by kernel_rfl) (by kernel_rfl) (fun _ _ _ h => h) (Or.inl ⟨by rfl, ?h32⟩) (by assumption) ?r32
  case h32 => (intro w hSw; (try dsimp only at hSw); go_simp; try with_reducible rfl)
  try simp only [List.getElem_toArray, List.getElem_cons_zero, List.getElem_cons_succ, Act.put, List.setIfInBounds_toArray, List.set_cons_zero, List.set_cons_succ]
  refine wpAnyH_take (i := 33) (v := ?v33) rfl (by kernel_rfl) (by kernel_rfl) (by kernel_rfl) (fun _ _ _ h => h) (Or.inl ⟨by rfl, ?h33⟩) (by assumption) ?r33
  case h33 => (intro w hSw; (try dsimp only at hSw); go_simp; try with_reducible rfl)
  try simp only [List.getElem_toArray, List.getElem_cons_zero, List.getElem_cons_succ, Act.put, List.setIfInBounds_toArray, List.set_cons_zero, List.set_cons_succ]
  refine wpAnyH_take (i := 34) (v := ?v34) rfl (by kernel_rfl) (by kernel_rfl) (by kernel_rfl) (fun _ _ _ h => h) (Or.inl ⟨by rfl, ?h34⟩) (by assumption) ?r34
  case h34 => (intro w hSw; (try dsimp only at hSw); go_simp; try with_reducible rfl)
  try simp only [List.getElem_toArray, List.getElem_cons_zero, List.getElem_cons_succ, Act.put, List.setIfInBounds_toArray, List.set_cons_zero, List.set_cons_succ]
  refine wpAnyH_take (i := 35) (v := ?v35) rfl (by kernel_rfl) (by kernel_rfl) (by kernel_rfl) (fun _ _ _ h => h) (Or.inl ⟨by rfl, ?h35⟩) (by assumption) ?r35
  case h35 => (intro w hSw; (try dsimp only at hSw); go_simp; try with_reducible rfl)
  try simp only [List.getElem_toArray, List.getElem_cons_zero, List.getElem_cons_succ, Act.put, List.setIfInBounds_toArray, List.set_cons_zero, List.set_cons_succ]
  refine wpAnyH_take (i := 36) (v := ?v36) rfl (by kernel_rfl) (by kernel_rfl) (by kernel_rfl) (fun _ _ _ h => h) (Or.inl ⟨by rfl, ?h36⟩) (by assumption) ?r36
  case h36 => (intro w hSw; (try dsimp only at hSw); go_simp; try with_reducible rfl)
  try simp only [List.getElem_toArray, List.getElem_cons_zero, List.getElem_cons_succ, Act.put, List.setIfInBounds_toArray, List.set_cons_zero, List.set_cons_succ]
  refine wpAnyH_take (i := 37) (v := ?v37) rfl (by kernel_rfl) (by kernel_rfl) (by kernel_rfl) (fun _ _ _ h => h) (Or.inl ⟨by rfl, ?h37⟩) (by assumption) ?r37
  case h37 => (intro w hSw; (try dsimp only at hSw); go_simp; try with_reducible rfl)
  try simp only [List.getElem_toArray, List.getElem_cons_zero, List.getElem_cons_succ, Act.put, List.setIfInBounds_toArray, List.set_cons_zero, List.set_cons_succ]
  refine wpAnyH_take (i := 38) (v := ?v38) rfl (by kernel_rfl) (by kernel_rfl) (by kernel_rfl) (fun _ _ _ h => h) (Or.inl ⟨by rfl, ?h38⟩) (by assumption) ?r38
  case h38 => (intro w hSw; (try dsimp only at hSw); go_simp; try with_reducible rfl)
  try simp only [List.getElem_toArray, List.getElem_cons_zero, List.getElem_cons_succ, Act.put, List.setIfInBounds_toArray, List.set_cons_zero, List.set_cons_succ]
  refine wpAnyH_take (i := 39) (v := ?v39) rfl (by kernel_rfl) (by kernel_rfl) (by kernel_rfl) (fun _ _ _ h => h) (Or.inl ⟨by rfl, ?h39⟩) (by assumption) ?r39
  case h39 => (intro w hSw; (try dsimp only at hSw); go_simp; try with_reducible rfl)
  try simp only [List.getElem_toArray, List.getElem_cons_zero, List.getElem_cons_succ, Act.put, List.setIfInBounds_toArray, List.set_cons_zero, List.set_cons_succ]
  refine wpAnyH_take (i := 40) (v := ?v40) rfl (by kernel_rfl) (by kernel_rfl) (by kernel_rfl) (fun _ _ _ h => h) (Or.inl ⟨by rfl, ?h40⟩) (by assumption) ?r40
  case h40 => (intro w hSw; (try dsimp only at hSw); go_simp; try with_reducible rfl)
  try simp only [List.getElem_toArray, List.getElem_cons_zero, List.getElem_cons_succ, Act.put, List.setIfInBounds_toArray, List.set_cons_zero, List.set_cons_succ]
  refine wpAnyH_take (i := 41) (v := ?v41) rfl (by kernel_rfl) (by kernel_rfl) (by kernel_rfl) (fun _ _ _ h => h) (Or.inl ⟨by rfl, ?h41⟩) (by assumption) ?r41
  case h41 => (intro w hSw; (try dsimp only at hSw); go_simp; try with_reducible rfl)
  try simp only [List.getElem_toArray, List.getElem_cons_zero, List.getElem_cons_succ, Act.put, List.setIfInBounds_toArray, List.set_cons_zero, List.set_cons_succ]
  refine wpAnyH_take (i := 42) (v := ?v42) rfl (by kernel_rfl) (by kernel_rfl) (by kernel_rfl) (fun _ _ _ h => h) (Or.inl ⟨by rfl, ?h42⟩) (by assumption) ?r42
  case h42 => (intro w hSw; (try dsimp only at hSw); go_simp; try with_reducible rfl)
  try simp only [List.getElem_toArray, List.getElem_cons_zero, List.getElem_cons_succ, Act.put, List.setIfInBounds_toArray, List.set_cons_zero, List.set_cons_succ]
  refine wpAnyH_take (i := 43) (v := ?v43) rfl (by kernel_rfl) (by kernel_rfl) (by kernel_rfl) (fun _ _ _ h => h) (Or.inl ⟨by rfl, ?h43⟩) (by assumption) ?r43
  case h43 => (intro w hSw; (try dsimp only at hSw); go_simp; try with_reducible rfl)
  try simp only [List.getElem_toArray, List.getElem_cons_zero, List.getElem_cons_succ, Act.put, List.setIfInBounds_toArray, List.set_cons_zero, List.set_cons_succ]
  refine wpAnyH_take (i := 44) (v := ?v44) rfl (by kernel_rfl) (by kernel_rfl) (by kernel_rfl) (fun _ _ _ h => h) (Or.inl ⟨by rfl, ?h44⟩) (by assumption) ?r44
  case h44 => (intro w hSw; (try dsimp only at hSw); go_simp; try with_reducible rfl)
  try simp only [List.getElem_toArray, List.getElem_cons_zero, List.getElem_cons_succ, Act.put, List.setIfInBounds_toArray, List.set_cons_zero, List.set_cons_succ]
  refine wpAnyH_take (i := 45) (v := ?v45) rfl (by kernel_rfl) (by kernel_rfl) (by kernel_rfl) (fun _ _ _ h => h) (Or.inl ⟨by rfl, ?h45⟩) (by assumption) ?r45
  case h45 => (intro w hSw; (try dsimp only at hSw); go_simp; try with_reducible rfl)
  try simp only [List.getElem_toArray, List.getElem_cons_zero, List.getElem_cons_succ, Act.put, List.setIfInBounds_toArray, List.set_cons_zero, List.set_cons_succ]
  refine wpAnyH_take (i := 46) (v := ?v46) rfl (by kernel_rfl) (by kernel_rfl) (by kernel_rfl) (fun _ _ _ h => h) (Or.inl ⟨by rfl, ?h46⟩) (by assumption) ?r46
  case h46 => (intro w hSw; (try dsimp only at hSw); go_simp; try with_reducible rfl)
  try simp only [List.getElem_toArray, List.getElem_cons_zero, List.getElem_cons_succ, Act.put, List.setIfInBounds_toArray, List.set_cons_zero, List.set_cons_succ]
  refine wpAnyH_take (i := 47) (v := ?v47) rfl (by kernel_rfl) (by kernel_rfl) (by kernel_rfl) (fun _ _ _ h => h) (Or.inl ⟨by rfl, ?h47⟩) (by assumption) ?r47
  case h47 => (intro w hSw; (try dsimp only at hSw); go_simp; try with_reducible rfl)
  try simp only [List.getElem_toArray, List.getElem_cons_zero, List.getElem_cons_succ, Act.put, List.setIfInBounds_toArray, List.set_cons_zero, List.set_cons_succ]
  refine wpAnyH_take (i := 48) (v := ?v48) rfl (by kernel_rfl) (by kernel_rfl) (by kernel_rfl) (fun _ _ _ h => h) (Or.inl ⟨by rfl, ?h48⟩) (by assumption) ?r48
  case h48 => (intro w hSw; (try dsimp only at hSw); go_simp; try with_reducible rfl)
  try simp only [List.getElem_toArray, List.getElem_cons_zero, List.getElem_cons_succ, Act.put, List.setIfInBounds_toArray, List.set_cons_zero, List.set_cons_succ]
  refine wpAnyH_take (i := 49) (v := ?v49) rfl (by kernel_rfl) (by kernel_rfl) (by kernel_rfl) (fun _ _ _ h => h) (Or.inl ⟨by rfl, ?h49⟩) (by assumption) ?r49
  case h49 => (intro w hSw; (try dsimp only at hSw); go_simp; try with_reducible rfl)
  try simp only [List.getElem_toArray, List.getElem_cons_zero, List.getElem_cons_succ, Act.put, List.setIfInBounds_toArray, List.set_cons_zero, List.set_cons_succ]
  refine wpAnyH_take (i := 50) (v := ?v50) rfl (by kernel_rfl) (by kernel_rfl) (by kernel_rfl) (fun _ _ _ h => h) (Or.inl ⟨by rfl, ?h50⟩) (by assumption) ?r50
  case h50 => (intro w hSw; (try dsimp only at hSw); go_simp; try with_reducible rfl)
  try simp only [List.getElem_toArray, List.getElem_cons_zero, List.getElem_cons_succ, Act.put, List.setIfInBounds_toArray, List.set_cons_zero, List.set_cons_succ]
  refine wpAnyH_take (i := 51) (v := ?v51) rfl (by kernel_rfl) (by kernel_rfl) (by kernel_rfl) (fun _ _ _ h => h) (Or.inl ⟨by rfl, ?h51⟩) (by assumption) ?r51
  case h51 => (intro w hSw; (try dsimp only at hSw); go_simp; try with_reducible rfl)
  try simp only [List.getElem_toArray, List.getElem_cons_zero, List.getElem_cons_succ, Act.put, List.setIfInBounds_toArray, List.set_cons_zero, List.set_cons_succ]
  refine wpAnyH_ready (rs := [52]) (by kernel_rfl) (by simp) ?_
  refine AllReadyH.cons rfl (fun K hK => ?_) AllReadyH.nil
  rw [if_pos (by rfl)]
  go_simp
  refine hK.out _ _ ?gS (fun hS => ?_)
  case gS => exact ⟨HP5.out.at 5, HP5.out.at 9, HP5.out.at 10, HP5.out.at 11, HP5.out.at 13, HP5.out.at 14, HP5.out.at 15, HP5.out.at 16, HP5.out.at 17, HP5.out.at 18, HP5.out.at 19, HP5.out.at 21⟩
  clear hK K
  try simp only [List.getElem_toArray, List.getElem_cons_zero, List.getElem_cons_succ, Act.put, List.setIfInBounds_toArray, List.set_cons_zero, List.set_cons_succ]
  refine wpAnyH_done (by kernel_rfl) ?_ _
  go_wp2_with fail
  obtain ⟨hU, hU14, hp4, hr4, hkF⟩ := HU.out
  have hfin := stored12 hr4 (.bool v.mi) (.bool v.si) (.bool false) (.bool v.fl) (.bool v.mn) (.bool v.wn) (.bool v.sm) (.int .u64 (v.k : Int)) (.int .u64 (v.ln : Int)) (.int .u64 (v.lv : Int)) (.int .u8 (v.ws : Int)) (.int .i64 0)
  rw [← heap_drew] at hfin
  refine bodyPost_ret (results_tmp_cell_row rfl _ _ w.heap.size _ _ (0, 0) _ rfl hfin Tryz.underlying50 rfl (by kernel_rfl)) rfl ?_
  have hF2w : ∀ j, F2 j → F j ∨ w.heap.size + 1 ≤ j := fun j hj => by
    have h1 := HW.out.2.2.1
    rcases HP2.out.2.2.2.2.2.2.2.2.1 j hj with h | h
    · exact .inl h
    · exact .inr (by omega)
  have hn2 : ¬ F2 w.heap.size := fun e => by
    rcases hF2w _ e with h | h
    · have := HW.out.2.2.2 _ h; omega
    · omega
  have hUS := (upd12 (g := w.heap.size) (Upd.refl (fun j => j = w.heap.size) w4) (.inl rfl) (.bool v.mi) (.bool v.si) (.bool false) (.bool v.fl) (.bool v.mn) (.bool v.wn) (.bool v.sm) (.int .u64 (v.k : Int)) (.int .u64 (v.ln : Int)) (.int .u64 (v.lv : Int)) (.int .u8 (v.ws : Int)) (.int .i64 0)).drew
  have hUE := hU.trans' hUS fun j hj => .inr (by omega)
  have hb4 := (HU3.out.heap HP2.out.1 fun h => h)
  have hg4 := (HU3.out.heap HP2.out.2.1 fun h => h)
  have hkb : ¬ b = k := fun e => HP2.out.2.2.2.2.2.1 (e ▸ hkF)
  have hkg : ¬ g = k := fun e => HP2.out.2.2.2.2.2.2.1 (e ▸ hkF)
  have hBP : BufP (bbS k) b w4 F2 [] [] := ⟨g, cur, Fs, HI4.out.2.heap hb4 hkb, HI4.out.2.heap hg4 hkg, HP2.out.2.2.1, by simp, by simp, by simp, HI4.out.1, HP2.out.2.2.2.2.1, HP2.out.2.2.2.2.2.1, HP2.out.2.2.2.2.2.2.1, HP2.out.2.2.2.2.2.2.2.1⟩
  refine ⟨rfl, F2, hh, hp4.keep hUS (by omega), ⟨[], [], hBP.stable (bb_law k) hUS (fun j hj e => hn2 (e ▸ hj)), rfl⟩, fun e => ?_, ownsRow_stable HXr.out.lev hUE (fun j hj e => ((HXr.out.ld j hj).1.2 e)), fun j hj => ⟨⟨(HXr.out.ld j hj).1.1, fun e => ?_⟩, (HXr.out.ld j hj).2⟩, fun j hj => ?_, HXr.out.upd.trans' hUE fun j hj => ?_⟩
  · rcases hF2w _ e with h | h
    · exact HXr.out.np h
    · omega
  · have h1 := HXr.out.lev_lt hj
    rcases hF2w _ e with h | h
    · exact (HXr.out.ld j hj).1.2 h
    · omega
  · rcases hF2w _ hj with h | h
    · exact HXr.out.fr j h
    · exact .inr (by have := HXr.out.upd.size; omega)
  · rcases HXr.out.fr j hj with h | h
    · exact .inl (.inr h)
    · exact .inr h
end Go.Proofs.YtmdkpihlhdjjaaaGreatFmt
