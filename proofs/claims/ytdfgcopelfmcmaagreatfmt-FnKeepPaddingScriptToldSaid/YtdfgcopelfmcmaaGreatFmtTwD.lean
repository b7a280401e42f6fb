/-
  tabwriter.Writer: terminateCell, at the first line with no cell yet.
-/
import Derived.Test.YtdfgcopelfmcmaaGreatFmtTwB
import Derived.Test.YtdfgcopelfmcmaaGreatFmtMa
import Derived.Deep.RegionLaw
namespace Go.Proofs.YtdfgcopelfmcmaaGreatFmt
open Go.RowKit

set_option maxRecDepth 100000 in
set_option maxHeartbeats 2000000 in
theorem tw_terminate {S : Sink} (hs : S.Law Tryz.prog 542) {tb : Nat} {w : World} {G Fs : Nat → Prop} {inner t : List UInt8} {twd fg pos cs : Nat} {cw : Int} {ht : Bool}
    (h : TwAt S tb w G Fs inner t twd fg pos cs cw ht 1 []) :
    Calls Tryz.prog 174 #[.pointer (some ⟨tb, 0, none⟩), .bool false] w fun e w' => e = .returned (.int .i64 1) ∧ ∃ G', TwAt S tb w' G' Fs inner t twd fg pos 0 0 false 1 [⟨cs, cw, false⟩] ∧ (∀ k, G' k → G k ∨ w.heap.size ≤ k) ∧ Upd (fun k => k = tb ∨ G k) w w' := by
  obtain ⟨vb, vl, aw, cap, hb, hr, hvb, ⟨L, capL, cur, v0, rfl, hL, hcs, hnc, hc1, hcm, hGL, h0, ho0, hG0, hrest⟩, hI, hFt, hGt, hGF, hGl, hfg⟩ := h
  have htL : ¬ tb = L := fun e => hGt (e ▸ hGL)
  have c15 : w.cell? ⟨tb, 15, none⟩ = some (.int .i64 (cs : Int)) := cell_at hb 15
  have c16 : w.cell? ⟨tb, 16, none⟩ = some (.int .i64 cw) := cell_at hb 16
  have c17 : w.cell? ⟨tb, 17, none⟩ = some (.bool ht) := cell_at hb 17
  have c19 : w.cell? ⟨tb, 19, none⟩ = some (.slice (some ⟨L, 0, none⟩) 1 capL) := cell_at hb 19
  have f15 : w.frozen? ⟨tb, 15, none⟩ = false := frozen_at hb 15
  have f16 : w.frozen? ⟨tb, 16, none⟩ = false := frozen_at hb 16
  have f17 : w.frozen? ⟨tb, 17, none⟩ = false := frozen_at hb 17
  have cL0 : w.cell? ⟨L, 0, none⟩ = some v0 := by rw [cell_at hL]; exact h0
  have fL0 : w.frozen? ⟨L, 0, none⟩ = false := frozen_at hL 0
  obtain ⟨a0, p0, hv0⟩ : ∃ ao c, v0 = .slice ao 0 c := by
    rcases ho0.2 with ⟨h1, h2⟩ | ⟨g, cap, cur, h1, _, _, h2, _⟩
    · exact ⟨none, 0, h1⟩
    · exact ⟨_, _, h1⟩
  subst hv0
  have hLt : ¬ L = tb := fun e => htL e.symm
  -- the world in which the cell is appended
  have hW1u : Upd (fun k => k = tb) w (((w.setCell ⟨tb, 17, none⟩ (.bool false)).alloc (.cells #[.int .i64 (cs : Int), .int .i64 cw, .bool false] 76)).drew.drew) :=
    ((((Upd.refl (fun k => k = tb) w).setCell (p := ⟨tb, 17, none⟩) (.inl rfl) _).alloc _).drew).drew
  have hNew : (((w.setCell ⟨tb, 17, none⟩ (.bool false)).alloc (.cells #[.int .i64 (cs : Int), .int .i64 cw, .bool false] 76)).drew.drew).heap[w.heap.size]? = some (.cells #[.int .i64 (cs : Int), .int .i64 cw, .bool false] 76 (0, 0)) := by
    have h := heap_alloc_new (w.setCell ⟨tb, 17, none⟩ (.bool false)) (.cells #[.int .i64 (cs : Int), .int .i64 cw, .bool false] 76)
    rw [World.size_setCell] at h
    exact h
  have hb1 : (((w.setCell ⟨tb, 17, none⟩ (.bool false)).alloc (.cells #[.int .i64 (cs : Int), .int .i64 cw, .bool false] 76)).drew.drew).heap[tb]? = some (.cells (twCells S twd fg vb pos cs cw false (.slice (some ⟨L, 0, none⟩) 1 capL) (.slice aw 0 cap)) 80 (0, 0)) := by
    refine (Below.heap_alloc _ _ _ (by simpa using heap_lt hb)).trans ((heap_setCell_at _ hb).trans ?_)
    simp [twCells]
  obtain ⟨i, z, hi, hz, hsz, hby, hzs⟩ : ∃ i z, Tryz.prog.info? 76 = some i ∧ i.zero = some z ∧ i.size = 3 ∧ i.bytes = 24 ∧ z.cells.size = 3 := ⟨_, _, rfl, rfl, rfl, rfl, rfl⟩
  obtain ⟨v', w2, hr2, ho2, hg2, hf2⟩ := append_own (P := Tryz.prog) (((w.setCell ⟨tb, 17, none⟩ (.bool false)).alloc (.cells #[.int .i64 (cs : Int), .int .i64 cw, .bool false] 76)).drew.drew) 316 316 76 i z 3 24
    Tryz.underlying316 hi hz hsz hby hzs (by decide) (v := .slice a0 0 p0) (n := 0) (xs := []) (own_stable ho0 hW1u fun k hk e => hGt (e ▸ hG0 k hk)) ⟨w.heap.size, 0, none⟩ 1 1 [.int .i64 (cs : Int), .int .i64 cw, .bool false] rfl
    (fun j u hj => by rw [Addr.add_lit, cell_at hNew, Nat.zero_add]; simpa using hj) (by simp [Value.oneCell']) (by decide) (by decide)
  obtain ⟨ao2, cap2, rfl⟩ : ∃ ao c, v' = .slice ao 1 c := by
    rcases ho2.2 with ⟨h1, h2⟩ | ⟨g, cap, cur, h1, _, _, h2, _⟩
    · exact absurd h2 (by decide)
    · exact ⟨_, _, h1⟩
  have hn0 : ∀ k, (Value.slice a0 0 p0).ownBlock = some k → k ≠ tb ∧ k ≠ L ∧ k < w.heap.size ∧ G k := fun k hk => by
    refine ⟨fun e => hGt (e ▸ hG0 k hk), fun e => ?_, hGl k (hG0 k hk), hG0 k hk⟩
    subst e
    obtain ⟨c, hc⟩ := own_block ho0 hk
    exact absurd (cells_type hc hL) (by decide)
  have hL1 : (((w.setCell ⟨tb, 17, none⟩ (.bool false)).alloc (.cells #[.int .i64 (cs : Int), .int .i64 cw, .bool false] 76)).drew.drew).heap[L]? = some (.cells cur 316 (0, 0)) := hW1u.heap hL hLt
  have hb2 : w2.heap[tb]? = some (.cells (twCells S twd fg vb pos cs cw false (.slice (some ⟨L, 0, none⟩) 1 capL) (.slice aw 0 cap)) 80 (0, 0)) := (hg2.block tb (heap_lt hb1) fun e => (hn0 tb e.symm).1 rfl).trans hb1
  have hL2 : w2.heap[L]? = some (.cells cur 316 (0, 0)) := (hg2.block L (heap_lt hL1) fun e => (hn0 L e.symm).2.1 rfl).trans hL1
  have cL1 : (((w.setCell ⟨tb, 17, none⟩ (.bool false)).alloc (.cells #[.int .i64 (cs : Int), .int .i64 cw, .bool false] 76)).drew.drew).cell? ⟨L, 0, none⟩ = some (.slice a0 0 p0) := by rw [cell_at hL1]; exact h0
  have cL2 : w2.cell? ⟨L, 0, none⟩ = some (.slice a0 0 p0) := by rw [cell_at hL2]; exact h0
  have fL2 : w2.frozen? ⟨L, 0, none⟩ = false := frozen_at hL2 0
  have d15 : w2.cell? ⟨tb, 15, none⟩ = some (.int .i64 (cs : Int)) := cell_at hb2 15
  have d16 : w2.cell? ⟨tb, 16, none⟩ = some (.int .i64 cw) := cell_at hb2 16
  have d17 : w2.cell? ⟨tb, 17, none⟩ = some (.bool false) := cell_at hb2 17
  have e15 : w2.frozen? ⟨tb, 15, none⟩ = false := frozen_at hb2 15
  have e16 : w2.frozen? ⟨tb, 16, none⟩ = false := frozen_at hb2 16
  have e17 : w2.frozen? ⟨tb, 17, none⟩ = false := frozen_at hb2 17
  have b15 : (((w.setCell ⟨tb, 17, none⟩ (.bool false)).alloc (.cells #[.int .i64 (cs : Int), .int .i64 cw, .bool false] 76)).drew.drew).cell? ⟨tb, 15, none⟩ = some (.int .i64 (cs : Int)) := cell_at hb1 15
  have b16 : (((w.setCell ⟨tb, 17, none⟩ (.bool false)).alloc (.cells #[.int .i64 (cs : Int), .int .i64 cw, .bool false] 76)).drew.drew).cell? ⟨tb, 16, none⟩ = some (.int .i64 cw) := cell_at hb1 16
  have b17 : (((w.setCell ⟨tb, 17, none⟩ (.bool false)).alloc (.cells #[.int .i64 (cs : Int), .int .i64 cw, .bool false] 76)).drew.drew).cell? ⟨tb, 17, none⟩ = some (.bool false) := cell_at hb1 17
  have hend : ∃ G', TwAt S tb ((((w2.setCell ⟨L, 0, none⟩ (.slice ao2 1 cap2)).setCell ⟨tb, 15, none⟩ (.int .i64 0)).setCell ⟨tb, 16, none⟩ (.int .i64 0)).setCell ⟨tb, 17, none⟩ (.bool false)) G' Fs inner t twd fg pos 0 0 false 1 [⟨cs, cw, false⟩] ∧ (∀ k, G' k → G k ∨ w.heap.size ≤ k) ∧ Upd (fun k => k = tb ∨ G k) w ((((w2.setCell ⟨L, 0, none⟩ (.slice ao2 1 cap2)).setCell ⟨tb, 15, none⟩ (.int .i64 0)).setCell ⟨tb, 16, none⟩ (.int .i64 0)).setCell ⟨tb, 17, none⟩ (.bool false)) := by
    have hsz1 : w.heap.size ≤ (((w.setCell ⟨tb, 17, none⟩ (.bool false)).alloc (.cells #[.int .i64 (cs : Int), .int .i64 cw, .bool false] 76)).drew.drew).heap.size := hW1u.size
    have hu3 : Upd (fun k => k = tb ∨ k = L) w2 ((((w2.setCell ⟨L, 0, none⟩ (.slice ao2 1 cap2)).setCell ⟨tb, 15, none⟩ (.int .i64 0)).setCell ⟨tb, 16, none⟩ (.int .i64 0)).setCell ⟨tb, 17, none⟩ (.bool false)) :=
      Upd.setCell (F := fun k => k = tb ∨ k = L) (Upd.setCell (F := fun k => k = tb ∨ k = L) (Upd.setCell (F := fun k => k = tb ∨ k = L) (Upd.setCell (F := fun k => k = tb ∨ k = L) (Upd.refl _ w2) (p := ⟨L, 0, none⟩) (.inl (.inr rfl)) _) (p := ⟨tb, 15, none⟩) (.inl (.inl rfl)) _) (p := ⟨tb, 16, none⟩) (.inl (.inl rfl)) _) (p := ⟨tb, 17, none⟩) (.inl (.inl rfl)) _
    have huA : Upd (fun k => k = tb ∨ (Value.slice a0 0 p0).ownBlock = some k) w w2 := (hW1u.mono fun k hk => .inl hk).grown hg2 fun k hk => .inl (.inr hk)
    have huL : Upd (fun k => k = tb ∨ k = L ∨ (Value.slice a0 0 p0).ownBlock = some k) w ((((w2.setCell ⟨L, 0, none⟩ (.slice ao2 1 cap2)).setCell ⟨tb, 15, none⟩ (.int .i64 0)).setCell ⟨tb, 16, none⟩ (.int .i64 0)).setCell ⟨tb, 17, none⟩ (.bool false)) :=
      (huA.mono fun k hk => hk.imp id fun h => .inr h).trans (hu3.mono fun k hk => hk.imp id fun h => .inl h)
    have hu : Upd (fun k => k = tb ∨ G k) w ((((w2.setCell ⟨L, 0, none⟩ (.slice ao2 1 cap2)).setCell ⟨tb, 15, none⟩ (.int .i64 0)).setCell ⟨tb, 16, none⟩ (.int .i64 0)).setCell ⟨tb, 17, none⟩ (.bool false)) := huL.mono fun k hk => by
      rcases hk with h | h | h
      · exact .inl h
      · subst h; exact .inr hGL
      · exact .inr (hn0 k h).2.2.2
    have hnb : ∀ k, (Value.slice ao2 1 cap2).ownBlock = some k → (G k ∨ w.heap.size ≤ k) ∧ k < w2.heap.size ∧ k ≠ tb ∧ k ≠ L := fun k hk => by
      have h := hf2 k hk
      refine ⟨h.imp (fun h => (hn0 k h).2.2.2) fun h => Nat.le_trans hsz1 h, (ho2.lt k hk).2, ?_, ?_⟩
      · rintro rfl
        rcases h with h | h
        · exact (hn0 _ h).1 rfl
        · have := heap_lt hb; omega
      · rintro rfl
        rcases h with h | h
        · exact (hn0 _ h).2.1 rfl
        · have := heap_lt hL; omega
    have hb3 : ((((w2.setCell ⟨L, 0, none⟩ (.slice ao2 1 cap2)).setCell ⟨tb, 15, none⟩ (.int .i64 0)).setCell ⟨tb, 16, none⟩ (.int .i64 0)).setCell ⟨tb, 17, none⟩ (.bool false)).heap[tb]? = some (.cells (twCells S twd fg vb pos 0 0 false (.slice (some ⟨L, 0, none⟩) 1 capL) (.slice aw 0 cap)) 80 (0, 0)) := by
      refine (heap_setCell_at _ (heap_setCell_at _ (heap_setCell_at _ ((Below.heap_setCell _ _ _ _ htL).trans hb2)))).trans ?_
      simp [twCells]
    have hL3 : ((((w2.setCell ⟨L, 0, none⟩ (.slice ao2 1 cap2)).setCell ⟨tb, 15, none⟩ (.int .i64 0)).setCell ⟨tb, 16, none⟩ (.int .i64 0)).setCell ⟨tb, 17, none⟩ (.bool false)).heap[L]? = some (.cells (cur.setIfInBounds 0 (.slice ao2 1 cap2)) 316 (0, 0)) :=
      (Below.heap_setCell _ _ _ _ hLt).trans ((Below.heap_setCell _ _ _ _ hLt).trans ((Below.heap_setCell _ _ _ _ hLt).trans (heap_setCell_at _ hL2)))
    refine ⟨fun k => G k ∨ (Value.slice ao2 1 cap2).ownBlock = some k, TwAt.next hs (G := G) hI hFt hGt hGF hfg (heap_lt hb) hu (fun k hk => ?_) (aw := aw) (cap := cap) hb3
      (hr.stable huL fun k hk e => ?_) (fun k hk => .inl (hvb k hk)) ⟨L, capL, _, _, rfl, hL3, by simpa using hcs, hnc, hc1, hcm, .inl hGL, ?_, own_stable ho2 hu3 fun k hk e => ?_, fun k hk => .inr hk, fun j v hj hv => ?_, fun h => absurd h (by omega)⟩, fun k hk => ?_, hu⟩
    · rcases hk with hk | hk
      · exact ⟨.inl hk, Nat.lt_of_lt_of_le (hGl k hk) hu.size⟩
      · exact ⟨(hnb k hk).1, Nat.lt_of_lt_of_le (hnb k hk).2.1 hu3.size⟩
    · rcases e with rfl | rfl | e
      · exact hGt (hvb _ hk)
      · obtain ⟨c, hc⟩ := hr.block hk
        exact absurd (cells_type hc hL) (by decide)
      · obtain ⟨c, hc⟩ := hr.block hk
        obtain ⟨c', hc'⟩ := own_block ho0 e
        exact absurd (cells_type hc hc') (by decide)
    · rw [Array.getElem?_setIfInBounds_self, if_pos (by omega)]
    · rcases e with rfl | rfl
      · exact (hnb _ hk).2.2.1 rfl
      · exact (hnb _ hk).2.2.2 rfl
    · rw [Array.getElem?_setIfInBounds_ne (by omega)] at hv
      exact hrest.1 j v hj hv
    · rcases hk with hk | hk
      · exact .inl hk
      · exact (hnb k hk).1
  have HEnd := Lib.hid hend
  have HR2 := Lib.hid hr2
  clear hend hr2 hn0 ho2 hg2 hf2 hb hL hb1 hL1 hb2 hL2 hW1u hi hz hsz hby hzs ho0 hrest hG0 hGL hvb hGt hGF hGl hFt hfg hI hr hcs hnc hc1 hcm hNew h0
  go_enter Tryz.func174, Tryz.ntmps174
  go_wp2_with fail
  go_region
  go_wp2_with fail
  go_region_law (refine step_append_run rfl _ _ _ rfl rfl rfl HR2.out ?_)
  all_goals go_wp2_with fail
  all_goals go_ret
  all_goals exact ⟨rfl, HEnd.out⟩
end Go.Proofs.YtdfgcopelfmcmaaGreatFmt
