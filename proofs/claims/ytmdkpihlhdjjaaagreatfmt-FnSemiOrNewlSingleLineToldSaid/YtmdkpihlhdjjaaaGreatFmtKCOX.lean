/-
  n010_43.FnSemiOrNewlSingleLine: the state is read, semiOrNewl once, the law.
-/
import Derived.Test.YtmdkpihlhdjjaaaGreatFmtKCOW
import Derived.Test.YtmdkpihlhdjjaaaGreatFmtKCaX
import Derived.Test.YtmdkpihlhdjjaaaGreatFmtKVh
namespace Go.Proofs.YtmdkpihlhdjjaaaGreatFmt
open Go.RowKit

theorem stored6 {w : World} {g : Nat} {t : TypeId} {z0 z1 z2 z3 z4 z5 : Value} (hg : w.heap[g]? = some (.cells #[z0, z1, z2, z3, z4, z5] t (0, 0))) (c0 c1 c2 c3 c4 c5 : Value) :
    ((((((w.setCell ⟨g, 0, none⟩ c0).setCell ⟨g, 1, none⟩ c1).setCell ⟨g, 2, none⟩ c2).setCell ⟨g, 3, none⟩ c3).setCell ⟨g, 4, none⟩ c4).setCell ⟨g, 5, none⟩ c5).heap[g]? = some (.cells #[c0, c1, c2, c3, c4, c5] t (0, 0)) := by
  refine (heap_setCell_at _ (heap_setCell_at _ (heap_setCell_at _ (heap_setCell_at _ (heap_setCell_at _ (heap_setCell_at _ hg)))))).trans ?_
  simp
theorem upd6 {w0 w : World} {g : Nat} {F : Nat → Prop} (h : Upd F w0 w) (hg : F g ∨ w0.heap.size ≤ g) (c0 c1 c2 c3 c4 c5 : Value) :
    Upd F w0 ((((((w.setCell ⟨g, 0, none⟩ c0).setCell ⟨g, 1, none⟩ c1).setCell ⟨g, 2, none⟩ c2).setCell ⟨g, 3, none⟩ c3).setCell ⟨g, 4, none⟩ c4).setCell ⟨g, 5, none⟩ c5) := by
  refine Upd.setCell (Upd.setCell (Upd.setCell (Upd.setCell (Upd.setCell (Upd.setCell (h) hg _) hg _) hg _) hg _) hg _) hg _

set_option maxRecDepth 100000 in
set_option maxHeartbeats 8000000 in
theorem zz_done43 {pb kb b : Nat} {tv : Value} {B : Base} {w : World} {l : List UInt8} {v : VS} (h : PX (bbS kb) pb b tv B w l v) (hl : l.length ≤ LIM) :
    Calls Tryz.prog 58 #[.pointer (some ⟨pb, 0, none⟩), .pointer (some ⟨kb, 0, none⟩)] w fun e w' => e = .returned (.agg (coS ⟨l.toArray⟩ v)) ∧ Upd (fun j => j = pb ∨ B.F0 j) B.w0 w' := by
  obtain ⟨F, hh, x⟩ := h
  have hm := bw_meth_fl b
  have ha := bw_ahead_fl b
  obtain ⟨w1, hw1⟩ : ∃ w1, w1 = w.alloc (.cells #[.string ⟨#[]⟩, .int .u64 0, .int .u64 0, .int .u8 0, .bool false, .bool false] 65) := ⟨_, rfl⟩
  have hu1 : Upd (fun _ => False) w w1 := by rw [hw1]; exact (Upd.refl _ w).alloc _
  have hr1 : w1.heap[w.heap.size]? = some (.cells #[.string ⟨#[]⟩, .int .u64 0, .int .u64 0, .int .u8 0, .bool false, .bool false] 65 (0, 0)) := by rw [hw1]; exact heap_alloc_new w _
  have hz1 : w1.heap.size = w.heap.size + 1 := by rw [hw1]; simp
  have hFl : ∀ j, F j → j < w.heap.size := x.buf.lt (bb_law kb)
  obtain ⟨inner, pend, hP, hip⟩ := x.buf.stable (bb_law kb) hu1 fun _ _ h => h
  have hfl := flush_any (bb_law kb) hP (by rw [hip, List.length_append] at hl; exact hl)
  rw [← hip] at hfl
  have c0 : w1.cell? ⟨pb, 0, none⟩ = some (.iface 71 (.pointer (some ⟨b, 0, none⟩))) := (x.cell.keep hu1 fun h => h).at 0
  obtain ⟨Q1, HQ1, HF⟩ := callsVar hfl
  have HW := Lib.hid (And.intro hu1 (And.intro hr1 (And.intro hz1 hFl)))
  have HXr := Lib.hid x
  rw [hw1] at HF c0
  have HW1 := Lib.hid hw1
  obtain ⟨out, hout⟩ : ∃ out : ByteArray, out = ⟨l.toArray⟩ := ⟨_, rfl⟩
  rw [← hout]
  have HO := Lib.hid hout
  clear hu1 hr1 hz1 hFl hP hfl hip hl hw1 x hout
  go_enter Tryz.func58, Tryz.ntmps58
  go_wp2_with (go_at_call 239; refine HF.out.mono ?_)
  rintro e w2 hq
  obtain ⟨rfl, F2, hP2, hF2, hu2⟩ := HQ1.out e w2 hq
  clear hq
  obtain ⟨g, cur, Fs, hb, hg, h1, h2, h3, h4, hI, h5, h6, h7, hF⟩ := hP2
  have hst := fun W (hW : Upd (fun _ => False) w2 W) => bb_string ((bb_law kb).stable hI hW fun _ _ h => h)
  rw [← HO.out] at hst
  have HSt := Lib.hid hst
  have hU14 : Upd F w1 w2 := hu2
  have hU : Upd F w w2 := (HW.out.1.mono fun _ h => h.elim).trans hU14
  have hp4 := HXr.out.cell.keep hU HXr.out.np
  have hr4 := hU14.heap HW.out.2.1 (fun hf => by have := HW.out.2.2.2 _ hf; omega)
  have q13 : w2.cell? ⟨pb, 13, none⟩ = some (.int .u8 (v.ws : Int)) := hp4.at 13
  have q14 : w2.cell? ⟨pb, 14, none⟩ = some (.bool v.wn) := hp4.at 14
  have q15 : w2.cell? ⟨pb, 15, none⟩ = some (.bool v.mn) := hp4.at 15
  have q19 : w2.cell? ⟨pb, 19, none⟩ = some (.int .u64 (v.ln : Int)) := hp4.at 19
  have q20 : w2.cell? ⟨pb, 20, none⟩ = some (.int .u64 (v.ll : Int)) := hp4.at 20
  have HS := Lib.hid (show ∀ W, Upd (fun j => j = w.heap.size) w2 W → W.cell? ⟨pb, 13, none⟩ = some (.int .u8 (v.ws : Int)) ∧ W.cell? ⟨pb, 14, none⟩ = some (.bool v.wn) ∧ W.cell? ⟨pb, 15, none⟩ = some (.bool v.mn) ∧ W.cell? ⟨pb, 19, none⟩ = some (.int .u64 (v.ln : Int)) ∧ W.cell? ⟨pb, 20, none⟩ = some (.int .u64 (v.ll : Int)) from fun W hW => ⟨(hp4.keep hW (by have := heap_lt HXr.out.cell; omega)).at 13, (hp4.keep hW (by have := heap_lt HXr.out.cell; omega)).at 14, (hp4.keep hW (by have := heap_lt HXr.out.cell; omega)).at 15, (hp4.keep hW (by have := heap_lt HXr.out.cell; omega)).at 19, (hp4.keep hW (by have := heap_lt HXr.out.cell; omega)).at 20⟩)
  have HRow := Lib.hid hr4
  have HU := Lib.hid hU
  clear hb hg h1 h2 h3 h4 hI h5 h6 h7 hF hF2 hu2 hst hU14 hU hp4 hr4
  go_wp2_with fail
  refine wp_region_held_drew (S := fun W => W.cell? ⟨pb, 13, none⟩ = some (.int .u8 (v.ws : Int)) ∧ W.cell? ⟨pb, 14, none⟩ = some (.bool v.wn) ∧ W.cell? ⟨pb, 15, none⟩ = some (.bool v.mn) ∧ W.cell? ⟨pb, 19, none⟩ = some (.int .u64 (v.ln : Int)) ∧ W.cell? ⟨pb, 20, none⟩ = some (.int .u64 (v.ll : Int))) (by kernel_rfl) ⟨q13, q14, q15, q19, q20⟩ (fun hHeld => ?_)
  refine wpAnyH_take (i := 0) (v := ?vd0) rfl (by kernel_rfl) (by kernel_rfl) (by kernel_rfl) (fun _ _ _ h => h) (Or.inl ⟨by rfl, ?hd0⟩) (by assumption) ?rd0
  case hd0 => (intro w hSw; (try dsimp only at hSw); go_simp; try with_reducible rfl)
  try simp only [List.getElem_toArray, List.getElem_cons_zero, Act.put, List.setIfInBounds_toArray, List.set_cons_zero, List.set_cons_succ]
  refine wpAnyH_take (i := 2) (v := ?vd2) rfl (by kernel_rfl) (by kernel_rfl) (by kernel_rfl) (fun _ _ _ h => h) (Or.inl ⟨by rfl, ?hd2⟩) (by assumption) ?rd2
  case hd2 => (intro w hSw; (try dsimp only at hSw); go_simp; try with_reducible rfl)
  try simp only [List.getElem_toArray, List.getElem_cons_zero, List.getElem_cons_succ, Act.put, List.setIfInBounds_toArray, List.set_cons_zero, List.set_cons_succ]
  refine wpAnyH_take (i := 3) (v := ?vd3) rfl (by kernel_rfl) (by kernel_rfl) (by kernel_rfl) (fun _ _ _ h => h) (Or.inl ⟨by rfl, ?hd3⟩) (by assumption) ?rd3
  case hd3 => (intro w hSw; (try dsimp only at hSw); go_simp; try with_reducible rfl)
  try simp only [List.getElem_toArray, List.getElem_cons_zero, List.getElem_cons_succ, Act.put, List.setIfInBounds_toArray, List.set_cons_zero, List.set_cons_succ]
  refine wpAnyH_take (i := 4) (v := ?vd4) rfl (by kernel_rfl) (by kernel_rfl) (by kernel_rfl) (fun _ _ _ h => h) (Or.inl ⟨by rfl, ?hd4⟩) (by assumption) ?rd4
  case hd4 => (intro w hSw; (try dsimp only at hSw); go_simp; try with_reducible rfl)
  try simp only [List.getElem_toArray, List.getElem_cons_zero, List.getElem_cons_succ, Act.put, List.setIfInBounds_toArray, List.set_cons_zero, List.set_cons_succ]
  refine wpAnyH_take (i := 5) (v := ?vd5) rfl (by kernel_rfl) (by kernel_rfl) (by kernel_rfl) (fun _ _ _ h => h) (Or.inl ⟨by rfl, ?hd5⟩) (by assumption) ?rd5
  case hd5 => (intro w hSw; (try dsimp only at hSw); go_simp; try with_reducible rfl)
  try simp only [List.getElem_toArray, List.getElem_cons_zero, List.getElem_cons_succ, Act.put, List.setIfInBounds_toArray, List.set_cons_zero, List.set_cons_succ]
  refine wpAnyH_take (i := 6) (v := ?vd6) rfl (by kernel_rfl) (by kernel_rfl) (by kernel_rfl) (fun _ _ _ h => h) (Or.inl ⟨by rfl, ?hd6⟩) (by assumption) ?rd6
  case hd6 => (intro w hSw; (try dsimp only at hSw); go_simp; try with_reducible rfl)
  try simp only [List.getElem_toArray, List.getElem_cons_zero, List.getElem_cons_succ, Act.put, List.setIfInBounds_toArray, List.set_cons_zero, List.set_cons_succ]
  refine wpAnyH_take (i := 7) (v := ?vd7) rfl (by kernel_rfl) (by kernel_rfl) (by kernel_rfl) (fun _ _ _ h => h) (Or.inl ⟨by rfl, ?hd7⟩) (by assumption) ?rd7
  case hd7 => (intro w hSw; (try dsimp only at hSw); go_simp; try with_reducible rfl)
  try simp only [List.getElem_toArray, List.getElem_cons_zero, List.getElem_cons_succ, Act.put, List.setIfInBounds_toArray, List.set_cons_zero, List.set_cons_succ]
  refine wpAnyH_take (i := 8) (v := ?vd8) rfl (by kernel_rfl) (by kernel_rfl) (by kernel_rfl) (fun _ _ _ h => h) (Or.inl ⟨by rfl, ?hd8⟩) (by assumption) ?rd8
  case hd8 => (intro w hSw; (try dsimp only at hSw); go_simp; try with_reducible rfl)
  try simp only [List.getElem_toArray, List.getElem_cons_zero, List.getElem_cons_succ, Act.put, List.setIfInBounds_toArray, List.set_cons_zero, List.set_cons_succ]
  refine wpAnyH_take (i := 9) (v := ?vd9) rfl (by kernel_rfl) (by kernel_rfl) (by kernel_rfl) (fun _ _ _ h => h) (Or.inl ⟨by rfl, ?hd9⟩) (by assumption) ?rd9
  case hd9 => (intro w hSw; (try dsimp only at hSw); go_simp; try with_reducible rfl)
  try simp only [List.getElem_toArray, List.getElem_cons_zero, List.getElem_cons_succ, Act.put, List.setIfInBounds_toArray, List.set_cons_zero, List.set_cons_succ]
  refine wpAnyH_take (i := 10) (v := ?vd10) rfl (by kernel_rfl) (by kernel_rfl) (by kernel_rfl) (fun _ _ _ h => h) (Or.inl ⟨by rfl, ?hd10⟩) (by assumption) ?rd10
  case hd10 => (intro w hSw; (try dsimp only at hSw); go_simp; try with_reducible rfl)
  try simp only [List.getElem_toArray, List.getElem_cons_zero, List.getElem_cons_succ, Act.put, List.setIfInBounds_toArray, List.set_cons_zero, List.set_cons_succ]
  refine wpAnyH_take (i := 11) (v := ?vd11) rfl (by kernel_rfl) (by kernel_rfl) (by kernel_rfl) (fun _ _ _ h => h) (Or.inl ⟨by rfl, ?hd11⟩) (by assumption) ?rd11
  case hd11 => (intro w hSw; (try dsimp only at hSw); go_simp; try with_reducible rfl)
  try simp only [List.getElem_toArray, List.getElem_cons_zero, List.getElem_cons_succ, Act.put, List.setIfInBounds_toArray, List.set_cons_zero, List.set_cons_succ]
  refine wpAnyH_take (i := 12) (v := ?vd12) rfl (by kernel_rfl) (by kernel_rfl) (by kernel_rfl) (fun _ _ _ h => h) (Or.inl ⟨by rfl, ?hd12⟩) (by assumption) ?rd12
  case hd12 => (intro w hSw; (try dsimp only at hSw); go_simp; try with_reducible rfl)
  try simp only [List.getElem_toArray, List.getElem_cons_zero, List.getElem_cons_succ, Act.put, List.setIfInBounds_toArray, List.set_cons_zero, List.set_cons_succ]
  refine wpAnyH_take (i := 13) (v := ?vd13) rfl (by kernel_rfl) (by kernel_rfl) (by kernel_rfl) (fun _ _ _ h => h) (Or.inl ⟨by rfl, ?hd13⟩) (by assumption) ?rd13
  case hd13 => (intro w hSw; (try dsimp only at hSw); go_simp; try with_reducible rfl)
  try simp only [List.getElem_toArray, List.getElem_cons_zero, List.getElem_cons_succ, Act.put, List.setIfInBounds_toArray, List.set_cons_zero, List.set_cons_succ]
  refine wpAnyH_take (i := 14) (v := ?vd14) rfl (by kernel_rfl) (by kernel_rfl) (by kernel_rfl) (fun _ _ _ h => h) (Or.inl ⟨by rfl, ?hd14⟩) (by assumption) ?rd14
  case hd14 => (intro w hSw; (try dsimp only at hSw); go_simp; try with_reducible rfl)
  try simp only [List.getElem_toArray, List.getElem_cons_zero, List.getElem_cons_succ, Act.put, List.setIfInBounds_toArray, List.set_cons_zero, List.set_cons_succ]
  refine wpAnyH_take (i := 15) (v := ?vd15) rfl (by kernel_rfl) (by kernel_rfl) (by kernel_rfl) (fun _ _ _ h => h) (Or.inl ⟨by rfl, ?hd15⟩) (by assumption) ?rd15
  case hd15 => (intro w hSw; (try dsimp only at hSw); go_simp; try with_reducible rfl)
  try simp only [List.getElem_toArray, List.getElem_cons_zero, List.getElem_cons_succ, Act.put, List.setIfInBounds_toArray, List.set_cons_zero, List.set_cons_succ]
  refine wpAnyH_take (i := 16) (v := ?vd16) rfl (by kernel_rfl) (by kernel_rfl) (by kernel_rfl) (fun _ _ _ h => h) (Or.inl ⟨by rfl, ?hd16⟩) (by assumption) ?rd16
  case hd16 => (intro w hSw; (try dsimp only at hSw); go_simp; try with_reducible rfl)
  try simp only [List.getElem_toArray, List.getElem_cons_zero, List.getElem_cons_succ, Act.put, List.setIfInBounds_toArray, List.set_cons_zero, List.set_cons_succ]
  refine wpAnyH_take (i := 17) (v := ?vd17) rfl (by kernel_rfl) (by kernel_rfl) (by kernel_rfl) (fun _ _ _ h => h) (Or.inl ⟨by rfl, ?hd17⟩) (by assumption) ?rd17
  case hd17 => (intro w hSw; (try dsimp only at hSw); go_simp; try with_reducible rfl)
  try simp only [List.getElem_toArray, List.getElem_cons_zero, List.getElem_cons_succ, Act.put, List.setIfInBounds_toArray, List.set_cons_zero, List.set_cons_succ]
  refine wpAnyH_take (i := 18) (v := ?vd18) rfl (by kernel_rfl) (by kernel_rfl) (by kernel_rfl) (fun _ _ _ h => h) (Or.inl ⟨by rfl, ?hd18⟩) (by assumption) ?rd18
  case hd18 => (intro w hSw; (try dsimp only at hSw); go_simp; try with_reducible rfl)
  try simp only [List.getElem_toArray, List.getElem_cons_zero, List.getElem_cons_succ, Act.put, List.setIfInBounds_toArray, List.set_cons_zero, List.set_cons_succ]
  refine wpAnyH_take (i := 19) (v := ?vd19) rfl (by kernel_rfl) (by kernel_rfl) (by kernel_rfl) (fun _ _ _ h => h) (Or.inl ⟨by rfl, ?hd19⟩) (by assumption) ?rd19
  case hd19 => (intro w hSw; (try dsimp only at hSw); go_simp; try with_reducible rfl)
  try simp only [List.getElem_toArray, List.getElem_cons_zero, List.getElem_cons_succ, Act.put, List.setIfInBounds_toArray, List.set_cons_zero, List.set_cons_succ]
  refine wpAnyH_take (i := 20) (v := ?vd20) rfl (by kernel_rfl) (by kernel_rfl) (by kernel_rfl) (fun _ _ _ h => h) (Or.inl ⟨by rfl, ?hd20⟩) (by assumption) ?rd20
  case hd20 => (intro w hSw; (try dsimp only at hSw); go_simp; try with_reducible rfl)
  try simp only [List.getElem_toArray, List.getElem_cons_zero, List.getElem_cons_succ, Act.put, List.setIfInBounds_toArray, List.set_cons_zero, List.set_cons_succ]
  refine wpAnyH_take (i := 21) (v := ?vd21) rfl (by kernel_rfl) (by kernel_rfl) (by kernel_rfl) (fun _ _ _ h => h) (Or.inl ⟨by rfl, ?hd21⟩) (by assumption) ?rd21
  case hd21 => (intro w hSw; (try dsimp only at hSw); go_simp; try with_reducible rfl)
  try simp only [List.getElem_toArray, List.getElem_cons_zero, List.getElem_cons_succ, Act.put, List.setIfInBounds_toArray, List.set_cons_zero, List.set_cons_succ]
  refine wpAnyH_ready (rs := [1]) (by kernel_rfl) (by simp) ?_
  refine AllReadyH.cons rfl (fun K hK => ?_) AllReadyH.nil
  go_simp
  go_wp2_with (go_at_call 125; refine (HSt.out _ (by first | exact Upd.refl _ _ | exact (Upd.refl _ _).drew)).mono ?_; rintro e w3 ⟨rfl, hu3⟩; have HU3 := Lib.hid ((Upd.refl (fun _ => False) w2).drew.trans hu3); have hr3 := HU3.out.heap HRow.out (fun h => h); have y0 : w3.cell? ⟨w.heap.size, 0, none⟩ = some (.string ⟨#[]⟩) := cell_at hr3 0; have fy0 : w3.frozen? ⟨w.heap.size, 0, none⟩ = false := frozen_at hr3 0; have y1 : w3.cell? ⟨w.heap.size, 1, none⟩ = some (.int .u64 0) := cell_at hr3 1; have fy1 : w3.frozen? ⟨w.heap.size, 1, none⟩ = false := frozen_at hr3 1; have y2 : w3.cell? ⟨w.heap.size, 2, none⟩ = some (.int .u64 0) := cell_at hr3 2; have fy2 : w3.frozen? ⟨w.heap.size, 2, none⟩ = false := frozen_at hr3 2; have y3 : w3.cell? ⟨w.heap.size, 3, none⟩ = some (.int .u8 0) := cell_at hr3 3; have fy3 : w3.frozen? ⟨w.heap.size, 3, none⟩ = false := frozen_at hr3 3; have y4 : w3.cell? ⟨w.heap.size, 4, none⟩ = some (.bool false) := cell_at hr3 4; have fy4 : w3.frozen? ⟨w.heap.size, 4, none⟩ = false := frozen_at hr3 4; have y5 : w3.cell? ⟨w.heap.size, 5, none⟩ = some (.bool false) := cell_at hr3 5; have fy5 : w3.frozen? ⟨w.heap.size, 5, none⟩ = false := frozen_at hr3 5; have HR3 := Lib.hid hr3; clear hr3 hu3)
  refine hK.out _ _ (HS.out _ (HU3.out.mono fun _ h => h.elim)) (fun hS => ?_)
  clear hK K
  try simp only [List.getElem_toArray, List.getElem_cons_zero, List.getElem_cons_succ, Act.put, List.setIfInBounds_toArray, List.set_cons_zero, List.set_cons_succ]
  refine wpAnyH_take (i := 22) (v := ?vd22) rfl (by kernel_rfl) (by kernel_rfl) (by kernel_rfl) (fun _ _ _ h => h) (Or.inl ⟨by rfl, ?hd22⟩) (by assumption) ?rd22
  case hd22 => (intro w hSw; (try dsimp only at hSw); go_simp; try with_reducible rfl)
  try simp only [List.getElem_toArray, List.getElem_cons_zero, List.getElem_cons_succ, Act.put, List.setIfInBounds_toArray, List.set_cons_zero, List.set_cons_succ]
  refine wpAnyH_ready (rs := [23]) (by kernel_rfl) (by simp) ?_
  refine AllReadyH.cons rfl (fun K hK => ?_) AllReadyH.nil
  rw [if_pos (by rfl)]
  go_simp
  refine hK.out _ _ (HS.out _ (upd6 (F := fun j => j = w.heap.size) (g := w.heap.size) (HU3.out.mono fun _ h => h.elim) (.inl rfl) _ _ _ _ _ _)) (fun hS => ?_)
  clear hK K
  try simp only [List.getElem_toArray, List.getElem_cons_zero, List.getElem_cons_succ, Act.put, List.setIfInBounds_toArray, List.set_cons_zero, List.set_cons_succ]
  refine wpAnyH_done (by kernel_rfl) ?_ _
  go_wp2_with fail
  have hfin := stored6 HR3.out (.string out) (.int .u64 (v.ln : Int)) (.int .u64 (v.ll : Int)) (.int .u8 (v.ws : Int)) (.bool v.wn) (.bool v.mn)
  refine bodyPost_ret (results_cell_row rfl _ _ w.heap.size _ _ (0, 0) _ rfl hfin Tryz.underlying65 rfl (by kernel_rfl)) rfl ?_
  refine ⟨rfl, ((HXr.out.upd.trans' HU.out fun j hj => ?_).trans' (upd6 (F := fun j => j = w.heap.size) (g := w.heap.size) (HU3.out.mono fun _ h => h.elim) (.inl rfl) _ _ _ _ _ _) fun j hj => ?_)⟩
  · rcases HXr.out.fr j hj with h | h
    · exact .inl (.inr h)
    · exact .inr h
  · right
    have := HXr.out.upd.size
    omega

set_option maxRecDepth 100000 in
set_option maxHeartbeats 8000000 in
theorem zz_semi43 (mi : Bool) (k lv ln ws : Nat) (wn sm : Bool) (s : ByteArray) (L : Nat) (hL : L ≤ 262143) (hs : s.size ≤ 65536) (hkl : k * lv ≤ 65536) (hlv : lv ≤ 65536) (hln : ln ≤ 2147483648) (w : World) :
    Calls Tryz.prog 28 #[.agg (coC mi k lv ln ws wn sm), .string s, .int .u64 (L : Int), .int .u64 1] w fun e w' => e = .returned (.agg (coS ⟨((if sm then [] else [59]) ++ (if mi then [] else [32]) ++ s.data.toList).toArray⟩ { coVS mi k lv ln ws wn sm with ln := max ln L, ws := 1 })) ∧ Upd (fun _ => False) w w' := by
  obtain ⟨v, hv⟩ : ∃ v, v = coVS mi k lv ln ws wn sm := ⟨_, rfl⟩
  obtain ⟨w1, hw1⟩ : ∃ w1, w1 = ((w.alloc (.cells (coC mi k lv ln ws wn sm) 68)).alloc (.cells #[.string ⟨#[]⟩, .int .u64 0, .int .u64 0, .int .u8 0, .bool false, .bool false] 65)).alloc (.cells #[.slice none 0 0, .int .i64 0, .int .i8 0] 131) := ⟨_, rfl⟩
  have hz1 : w1.heap.size = w.heap.size + 3 := by rw [hw1]; simp
  have hb := fun i o (h : ([.cells (coC mi k lv ln ws wn sm) 68, .cells #[.string ⟨#[]⟩, .int .u64 0, .int .u64 0, .int .u8 0, .bool false, .bool false] 65, .cells #[.slice none 0 0, .int .i64 0, .int .i8 0] 131] : List Obj)[i]? = some o) => allocs_get [.cells (coC mi k lv ln ws wn sm) 68, .cells #[.string ⟨#[]⟩, .int .u64 0, .int .u64 0, .int .u8 0, .bool false, .bool false] 65, .cells #[.slice none 0 0, .int .i64 0, .int .i8 0] 131] w h
  have hx1 : w1.heap[w.heap.size]? = some (.cells (coC mi k lv ln ws wn sm) 68 (0, 0)) := by rw [hw1]; exact hb 0 _ rfl
  have hr1 : w1.heap[w.heap.size + 1]? = some (.cells #[.string ⟨#[]⟩, .int .u64 0, .int .u64 0, .int .u8 0, .bool false, .bool false] 65 (0, 0)) := by rw [hw1]; exact hb 1 _ rfl
  have hk1 : w1.heap[w.heap.size + 2]? = some (.cells #[.slice none 0 0, .int .i64 0, .int .i8 0] 131 (0, 0)) := by rw [hw1]; exact hb 2 _ rfl
  have hu1 : Upd (fun _ => False) w w1 := by rw [hw1]; exact (((Upd.refl _ w).alloc _).alloc _).alloc _
  obtain ⟨Q, HQ, HC⟩ := callsVar (zz_printer43 mi k lv ln ws wn sm hk1)
  have x0 : w1.cell? ⟨w.heap.size, 0, none⟩ = some (.bool mi) := cell_at hx1 0
  have x1 : w1.cell? ⟨w.heap.size, 1, none⟩ = some (.bool true) := cell_at hx1 1
  have x2 : w1.cell? ⟨w.heap.size, 2, none⟩ = some (.bool false) := cell_at hx1 2
  have x3 : w1.cell? ⟨w.heap.size, 3, none⟩ = some (.int .u64 (k : Int)) := cell_at hx1 3
  have x4 : w1.cell? ⟨w.heap.size, 4, none⟩ = some (.int .u64 (lv : Int)) := cell_at hx1 4
  have x5 : w1.cell? ⟨w.heap.size, 5, none⟩ = some (.int .u64 (ln : Int)) := cell_at hx1 5
  have x6 : w1.cell? ⟨w.heap.size, 6, none⟩ = some (.int .u8 (ws : Int)) := cell_at hx1 6
  have x7 : w1.cell? ⟨w.heap.size, 7, none⟩ = some (.bool wn) := cell_at hx1 7
  have x8 : w1.cell? ⟨w.heap.size, 8, none⟩ = some (.bool false) := cell_at hx1 8
  have x9 : w1.cell? ⟨w.heap.size, 9, none⟩ = some (.bool sm) := cell_at hx1 9
  have x10 : w1.cell? ⟨w.heap.size, 10, none⟩ = some (.string ⟨#[]⟩) := cell_at hx1 10
  rw [hw1] at HC x0 x1 x2 x3 x4 x5 x6 x7 x8 x9 x10
  have HW1 := Lib.hid hw1
  have HX1 := Lib.hid (And.intro hz1 (And.intro hr1 hu1))
  have HL := Lib.hid (And.intro hL (And.intro hs (And.intro hkl (And.intro hlv (And.intro hln hv)))))
  obtain ⟨out, hout⟩ : ∃ out : ByteArray, out = ⟨((if sm then [] else [59]) ++ (if mi then [] else [32]) ++ s.data.toList).toArray⟩ := ⟨_, rfl⟩
  obtain ⟨u, hu⟩ : ∃ u : VS, u = { coVS mi k lv ln ws wn sm with ln := max ln L, ws := 1 } := ⟨_, rfl⟩
  rw [← hout, ← hu]
  have HO := Lib.hid (And.intro hout hu)
  clear hz1 hb hx1 hr1 hk1 hu1 hw1 hL hs hkl hlv hln hv hout hu
  go_enter Tryz.func28, Tryz.ntmps28
  go_wp2_with (go_at_call 55; refine HC.out.mono ?_)
  rintro e w2 hq
  obtain ⟨pb, b, tv, wB, F, rfl, hX, hpb, hF, hu2⟩ := HQ.out e w2 hq
  clear hq x0 x1 x2 x3 x4 x5 x6 x7 x8 x9 x10
  try rw [← HW1.out] at hpb hF hu2
  rw [← HL.out.2.2.2.2.2] at hX
  have HX := Lib.hid hX
  have HF := Lib.hid (And.intro hpb (And.intro hF hu2))
  clear hX hpb hF hu2
  go_wp2_with (first
    | (go_at_call 57; go_loud (refine (zz_pos43 L HL.out.1 _).mono ?_); go_loud (rintro e w3 ⟨rfl, hu3⟩)
       go_loud (have HRp := Lib.hid (v_semiOrNewl (bb_tok _) (HX.out.quiet (bb_tok _) hu3) s 0 (lcP L) (lcP_lt L) (fun _ _ => rfl) (fun _ _ => rfl) (by rw [HL.out.2.2.2.2.2]; exact Nat.le_trans HL.out.2.2.1 (by decide)) (by rw [HL.out.2.2.2.2.2]; exact Nat.le_trans HL.out.2.2.2.1 (by decide)) (by
         have h1 := mIndent_le v (by rw [HL.out.2.2.2.2.2]; exact ⟨HL.out.2.2.1, HL.out.2.2.2.1, HL.out.2.2.2.2.1⟩)
         have h2 := HL.out.2.1
         unfold LIM; simp only [List.length_nil]; omega)))
       clear hu3)
    | (go_at_call 56; refine HRp.out.mono ?_; rintro e w4 ⟨rfl, h4⟩
       have H4 := Lib.hid h4
       clear h4 HRp))
  have e4 : lcP L / 16384 = L := by rw [lcP_line]; unfold clampL; rw [if_neg (by have := HL.out.1; omega)]
  have e5 : wantsN v 0 false = false := by rw [HL.out.2.2.2.2.2]; simp [wantsN, coVS]
  have e6 : ([] ++ mSon v ++ s.data.toList) = ((if sm then [] else [59]) ++ (if mi then [] else [32]) ++ s.data.toList) := by
    have h1 : v.sm = sm := by rw [HL.out.2.2.2.2.2]; rfl
    have h2 : v.mi = mi := by rw [HL.out.2.2.2.2.2]; rfl
    unfold mSon
    rw [e5, h1, h2]
    simp only [Bool.false_eq_true, if_false, List.nil_append]
  have e7 : sSon v L = u := by
    unfold sSon
    rw [e5, HO.out.2, HL.out.2.2.2.2.2]
    simp [coVS]
  have h4 := H4.out
  rw [e4, e6, e7] at h4
  have hrd := zz_done43 h4 (by have h1 := HL.out.2.1; have h2 : s.data.toList.length = s.size := rfl; unfold LIM; cases sm <;> cases mi <;> simp [h2] <;> omega)
  rw [← HO.out.1] at hrd
  have HRd := Lib.hid hrd
  clear h4 e4 e5 e6 e7 hrd H4
  go_wp2_with (first
    | (go_at_call 58; refine HRd.out.mono ?_; rintro e w5 ⟨rfl, h5⟩
       have hy5 := h5.heap (HF.out.2.2.heap HX1.out.2.1 fun h => h) (by
         rintro (e | e)
         · have h1 := HF.out.1; have h2 := HX1.out.1; omega
         · rcases HF.out.2.1 _ e with h | h
           · omega
           · have h2 := HX1.out.1; omega)
       have y0 : w5.cell? ⟨w.heap.size + 1, 0, none⟩ = some (.string ⟨#[]⟩) := cell_at hy5 0
       have fy0 : w5.frozen? ⟨w.heap.size + 1, 0, none⟩ = false := frozen_at hy5 0
       have y1 : w5.cell? ⟨w.heap.size + 1, 1, none⟩ = some (.int .u64 0) := cell_at hy5 1
       have fy1 : w5.frozen? ⟨w.heap.size + 1, 1, none⟩ = false := frozen_at hy5 1
       have y2 : w5.cell? ⟨w.heap.size + 1, 2, none⟩ = some (.int .u64 0) := cell_at hy5 2
       have fy2 : w5.frozen? ⟨w.heap.size + 1, 2, none⟩ = false := frozen_at hy5 2
       have y3 : w5.cell? ⟨w.heap.size + 1, 3, none⟩ = some (.int .u8 0) := cell_at hy5 3
       have fy3 : w5.frozen? ⟨w.heap.size + 1, 3, none⟩ = false := frozen_at hy5 3
       have y4 : w5.cell? ⟨w.heap.size + 1, 4, none⟩ = some (.bool false) := cell_at hy5 4
       have fy4 : w5.frozen? ⟨w.heap.size + 1, 4, none⟩ = false := frozen_at hy5 4
       have y5 : w5.cell? ⟨w.heap.size + 1, 5, none⟩ = some (.bool false) := cell_at hy5 5
       have fy5 : w5.frozen? ⟨w.heap.size + 1, 5, none⟩ = false := frozen_at hy5 5
       have HY5 := Lib.hid (And.intro hy5 h5)
       clear hy5 h5 HRd))
  obtain ⟨hy5, h5⟩ := HY5.out
  refine bodyPost_ret (results_cell_row rfl _ _ (w.heap.size + 1) _ _ (0, 0) _ rfl (stored6 hy5 _ _ _ _ _ _) Tryz.underlying65 rfl (by kernel_rfl)) rfl ?_
  have h1 := HX1.out.1
  have h2 := HF.out.1
  refine ⟨rfl, upd6 ((HX1.out.2.2.trans HF.out.2.2).trans' h5 fun j hj => ?_) (.inr (by omega)) _ _ _ _ _ _⟩
  rcases hj with h | h
  · exact .inr (by omega)
  · rcases HF.out.2.1 j h with h | h
    · exact .inr (by omega)
    · exact .inr (by omega)

theorem co_suf (sm mi : Bool) (s : ByteArray) (h : s.data.toList.all nlB = true) : ((if sm then [] else [59]) ++ (if mi then [] else [32]) ++ s.data.toList).all nlB = true := by
  rw [List.all_append, h]
  cases sm <;> cases mi <;> rfl

set_option maxRecDepth 100000 in
set_option maxHeartbeats 8000000 in
theorem co_main (b0 : Bool) (k1 k2 k3 k4 : Nat) (b5 b6 : Bool) (s7 : ByteArray) (k8 : Nat) (w : World) (hs : s7.size ≤ maxLen) :
    Calls Tryz.prog 6 #[.bool b0, .int .u64 (k1 : Int), .int .u64 (k2 : Int), .int .u64 (k3 : Int), .int .u8 (k4 : Int), .bool b5, .bool b6, .string s7, .int .u64 (k8 : Int)] w fun e w' => e = .returned (.bool true) ∧ Below w.heap.size w w' := by
  have hsI : (s7.size : Int) ≤ 9223372036854775807 := by unfold maxLen at hs; omega
  clear hs
  by_cases hz : 1048576 < s7.size
  · have hzI : (1048576 : Int) < (s7.size : Int) := by omega
    have hzb : ∀ W, Calls Tryz.prog 26 #[.bool b0, .int .u64 (k1 : Int), .int .u64 (k2 : Int), .int .u64 (k3 : Int), .int .u8 (k4 : Int), .bool b5, .bool b6, .string s7, .int .u64 (k8 : Int)] W fun e w' => e = .returned (.bool false) ∧ W = w' := fun W => by
      clear hz
      go_enter Tryz.func26, Tryz.ntmps26
      go_wp2_with fail
      go_ret
      exact ⟨rfl, rfl⟩
    have HZ := Lib.hid hzb
    clear hzb hz
    go_enter Tryz.func6, Tryz.ntmps6
    go_wp2_with (go_at_call 26; refine (HZ.out _).mono ?_; rintro e w1 ⟨rfl, rfl⟩)
    go_ret
    exact ⟨rfl, Below.refl _ _⟩
  have hzI : (s7.size : Int) ≤ 1048576 := by omega
  have hzb : ∀ W, Calls Tryz.prog 26 #[.bool b0, .int .u64 (k1 : Int), .int .u64 (k2 : Int), .int .u64 (k3 : Int), .int .u8 (k4 : Int), .bool b5, .bool b6, .string s7, .int .u64 (k8 : Int)] W fun e w' => e = .returned (.bool true) ∧ W = w' := fun W => by
    clear hz
    go_enter Tryz.func26, Tryz.ntmps26
    go_wp2_with fail
    go_ret
    exact ⟨rfl, rfl⟩
  have HZ := Lib.hid hzb
  have HNl := Lib.hid (fun (t : ByteArray) (ht : t.size ≤ 1099511627776) W => zz_nonl t ht W)
  clear hzb
  by_cases h7 : 65536 < s7.size
  · have hI : (65536 : Int) < (s7.size : Int) := by omega
    clear h7 hz
    go_enter Tryz.func6, Tryz.ntmps6
    go_wp2_with (go_at_call 26; refine (HZ.out _).mono ?_; rintro e w1 ⟨rfl, rfl⟩; clear HZ)
    go_ret
    exact ⟨rfl, Below.refl _ _⟩
  have h7I : (s7.size : Int) ≤ 65536 := by omega
  have H7 := Lib.hid (show s7.size ≤ 65536 by omega)
  clear h7 hz
  by_cases h1 : 65536 < k1
  · have h1I : (65536 : Int) < (k1 : Int) := by omega
    clear h1
    go_enter Tryz.func6, Tryz.ntmps6
    go_wp2_with (go_at_call 26; refine (HZ.out _).mono ?_; rintro e w1 ⟨rfl, rfl⟩; clear HZ)
    go_ret
    exact ⟨rfl, Below.refl _ _⟩
  have h1I : (k1 : Int) ≤ 65536 := by omega
  by_cases h2 : 65536 < k2
  · have h2I : (65536 : Int) < (k2 : Int) := by omega
    clear h1 h2
    go_enter Tryz.func6, Tryz.ntmps6
    go_wp2_with (go_at_call 26; refine (HZ.out _).mono ?_; rintro e w1 ⟨rfl, rfl⟩; clear HZ)
    go_ret
    exact ⟨rfl, Below.refl _ _⟩
  have h2I : (k2 : Int) ≤ 65536 := by omega
  have hm : k1 * k2 ≤ 4294967296 := Nat.le_trans (Nat.mul_le_mul (show k1 ≤ 65536 by omega) (show k2 ≤ 65536 by omega)) (by decide)
  obtain ⟨n, hn⟩ : ∃ n, n = k1 * k2 := ⟨_, rfl⟩
  have hmul : IntKind.u64.wrap ((k1 : Int) * (k2 : Int)) = (n : Int) := by
    rw [hn, IntKind.wrap_u64, Int.natCast_mul]
    have h1 : (k1 : Int) * (k2 : Int) ≤ 4294967296 := by rw [← Int.natCast_mul]; omega
    have h2 : 0 ≤ (k1 : Int) * (k2 : Int) := by rw [← Int.natCast_mul]; omega
    omega
  by_cases h3 : 65536 < n
  · have h3I : (65536 : Int) < (n : Int) := by omega
    clear h1 h2 h3 hn hm
    go_enter Tryz.func6, Tryz.ntmps6
    go_wp2_with (go_at_call 26; refine (HZ.out _).mono ?_; rintro e w1 ⟨rfl, rfl⟩; clear HZ)
    go_ret
    exact ⟨rfl, Below.refl _ _⟩
  have h3I : (n : Int) ≤ 65536 := by omega
  have HKl := Lib.hid (show k1 * k2 ≤ 65536 ∧ k2 ≤ 65536 by omega)
  clear h1 h2 h3 hn hm
  by_cases h4 : 2147483648 < k3
  · have h4I : (2147483648 : Int) < (k3 : Int) := by omega
    clear h4
    go_enter Tryz.func6, Tryz.ntmps6
    go_wp2_with (go_at_call 26; refine (HZ.out _).mono ?_; rintro e w1 ⟨rfl, rfl⟩; clear HZ)
    go_ret
    exact ⟨rfl, Below.refl _ _⟩
  have h4I : (k3 : Int) ≤ 2147483648 := by omega
  by_cases h5 : 2 < k4
  · have h5I : (2 : Int) < (k4 : Int) := by omega
    clear h4 h5
    go_enter Tryz.func6, Tryz.ntmps6
    go_wp2_with (go_at_call 26; refine (HZ.out _).mono ?_; rintro e w1 ⟨rfl, rfl⟩; clear HZ)
    go_ret
    exact ⟨rfl, Below.refl _ _⟩
  have h5I : (k4 : Int) ≤ 2 := by omega
  by_cases h6 : 262143 < k8
  · have h6I : (262143 : Int) < (k8 : Int) := by omega
    clear h4 h5 h6
    go_enter Tryz.func6, Tryz.ntmps6
    go_wp2_with (go_at_call 26; refine (HZ.out _).mono ?_; rintro e w1 ⟨rfl, rfl⟩; clear HZ)
    go_ret
    exact ⟨rfl, Below.refl _ _⟩
  have h6I : (k8 : Int) ≤ 262143 := by omega
  have HB := Lib.hid (show k3 ≤ 2147483648 ∧ k8 ≤ 262143 by omega)
  clear h4 h5 h6
  cases hall : s7.data.toList.all nlB
  · have HN7 := Lib.hid (HNl.out s7 (by have := H7.out; omega))
    rw [hall] at HN7
    clear hall
    go_enter Tryz.func6, Tryz.ntmps6
    go_wp2_with (first
      | (go_at_call 26; refine (HZ.out _).mono ?_; rintro e w1 ⟨rfl, rfl⟩; clear HZ)
      | (go_at_call 27; refine (HN7.out _).mono ?_; rintro e w1 ⟨rfl, rfl⟩; clear HN7))
    go_ret
    exact ⟨rfl, Below.refl _ _⟩
  have HN7 := Lib.hid (HNl.out s7 (by have := H7.out; omega))
  rw [hall] at HN7
  obtain ⟨out, hout⟩ : ∃ out : ByteArray, out = ⟨((if b6 then [] else [59]) ++ (if b0 then [] else [32]) ++ s7.data.toList).toArray⟩ := ⟨_, rfl⟩
  have hoz : out.size ≤ 65538 := by
    rw [hout]
    show ((if b6 then [] else [59]) ++ (if b0 then [] else [32]) ++ s7.data.toList).toArray.size ≤ _
    have h1 := H7.out
    have h2 : s7.data.toList.length = s7.size := rfl
    rw [List.size_toArray]
    cases b6 <;> cases b0 <;> simp [h2] <;> omega
  have HNo := Lib.hid (HNl.out out (by omega))
  have hoa : out.data.toList.all nlB = true := by rw [hout]; exact co_suf b6 b0 s7 hall
  rw [hoa] at HNo
  have HSf := Lib.hid (fun W => zz_suffix (s := out) (p := s7) (l := (if b6 then [] else [59]) ++ (if b0 then [] else [32])) (by rw [hout]) (by omega) W)
  obtain ⟨M, hM⟩ : ∃ M, M = max k3 k8 := ⟨_, rfl⟩
  have hM1 : (k3 : Int) ≤ (M : Int) := by omega
  have hM2 : (k8 : Int) ≤ (M : Int) := by omega
  have hst := fun W => zz_semi43 b0 k1 k2 k3 k4 b5 b6 s7 k8 HB.out.2 H7.out HKl.out.1 HKl.out.2 HB.out.1 W
  rw [← hout] at hst
  have HSt := Lib.hid (show ∀ W, Calls Tryz.prog 28 #[.agg (coC b0 k1 k2 k3 k4 b5 b6), .string s7, .int .u64 (k8 : Int), .int .u64 1] W fun e w' => e = .returned (.agg #[.string out, .int .u64 (M : Int), .int .u64 0, .int .u8 1, .bool b5, .bool false]) ∧ Upd (fun _ => False) W w' from fun W => (hst W).mono fun e w' ⟨he, hu⟩ => ⟨by rw [he, hM]; rfl, hu⟩)
  clear hall hout hoz hoa hM hst
  go_enter Tryz.func6, Tryz.ntmps6
  go_wp2_with (first
    | (go_at_call 26; refine (HZ.out _).mono ?_; rintro e w1 ⟨rfl, rfl⟩; clear HZ)
    | (go_at_call 27; refine (HN7.out _).mono ?_; rintro e w1 ⟨rfl, rfl⟩; clear HN7)
    | (go_at_call 28; refine (HSt.out _).mono ?_; rintro e w2 ⟨rfl, hu2⟩; have HU2 := Lib.hid hu2; clear hu2 HSt)
    | (go_at_call 27; refine (HNo.out _).mono ?_; rintro e w1 ⟨rfl, rfl⟩; clear HNo)
    | (go_at_call 29; refine (HSf.out _).mono ?_; rintro e w1 ⟨rfl, rfl⟩; clear HSf))
  go_ret
  exact ⟨by first | rfl | simp, (HU2.out.alloc _).below (fun k h => h.elim) (Nat.le_refl _)⟩
end Go.Proofs.YtmdkpihlhdjjaaaGreatFmt
