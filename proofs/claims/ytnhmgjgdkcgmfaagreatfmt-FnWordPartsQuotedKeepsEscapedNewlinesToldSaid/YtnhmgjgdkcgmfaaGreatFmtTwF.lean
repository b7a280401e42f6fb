/-
  tabwriter.Writer: addLine(false), where the first line holds one cell.
-/
import Derived.Test.YtnhmgjgdkcgmfaaGreatFmtMc
import Derived.Test.YtnhmgjgdkcgmfaaGreatFmtMa
import Derived.Deep.RegionLaw
namespace Go.Proofs.YtnhmgjgdkcgmfaaGreatFmt
open Go.RowKit

theorem mem_zeroCells {x v : Value} {n i : Nat} (h : (Builtin.zeroCells #[x] n)[i]? = some v) : v = x := by
  have := Array.mem_of_getElem? h
  simp [Builtin.zeroCells] at this
  obtain ⟨i, _, hv⟩ := this
  simpa [Nat.mod_one] using hv.symm

/-- The state behind addLine(false): the second line is there and empty. -/
theorem tw_line2 {P : Program} {fuel : Nat} {S : Sink} (hs : S.Law P fuel) {tb : Nat} {w W : World} {G Fs : Nat → Prop} {inner t : List UInt8} {twd fg pos cs : Nat} {cw : Int} {ht : Bool} {c0 : List TCell} {vb : Value} {aw : Option Addr} {cap L L' capL' : Nat} {cur' : Array Value} {v0 : Value} {a1 : Option Addr} {p1 : Nat}
    (hI : S.I w Fs inner) (hFt : ¬ Fs tb) (hGt : ¬ G tb) (hGF : ∀ k, G k → ¬ Fs k) (hfg : fg = 10 ∨ fg = 26) (htl : tb < w.heap.size) (hGl : ∀ k, G k → k < w.heap.size)
    (hr : Row w vb t) (hvb : ∀ k, vb.ownBlock = some k → G k) (ho0 : w.ownsRow 0 75 3 v0 c0.length (c0.flatMap TCell.vs)) (hG0 : ∀ k, v0.ownBlock = some k → G k) (hGL : G L) {curL : Array Value} (hL0 : w.heap[L]? = some (.cells curL 313 (0, 0)))
    (hu : Upd (fun k => k = tb ∨ k = L) w W) (hL' : L' = L ∨ w.heap.size ≤ L')
    (hb : W.heap[tb]? = some (.cells (twCells S twd fg vb pos cs cw ht (.slice (some ⟨L', 0, none⟩) 2 capL') (.slice aw 0 cap)) 79 (0, 0)))
    (hL : W.heap[L']? = some (.cells cur' 313 (0, 0))) (hsz : cur'.size = capL') (h2 : 2 ≤ capL') (hm : capL' ≤ maxLen) (h0 : cur'[0]? = some v0) (h1 : cur'[1]? = some (.slice a1 0 p1)) (hp1 : p1 ≤ maxLen)
    (hrest : ∀ j v, 2 ≤ j → cur'[j]? = some v → ∃ ao n c, v = .slice ao n c ∧ n ≤ c ∧ c ≤ maxLen) :
    ∃ G', TwAt S tb W G' Fs inner t twd fg pos cs cw ht 2 c0 ∧ (∀ k, G' k → G k ∨ w.heap.size ≤ k) ∧ Upd (fun k => k = tb ∨ G k) w W := by
  have hu1 : Upd (fun k => k = tb ∨ G k) w W := hu.mono fun k hk => hk.imp id fun e => by subst e; exact hGL
  have hnL : ∀ k, (k = tb ∨ k = L) → G k → vb.ownBlock = some k → False := fun k hk hg e => by
    rcases hk with rfl | rfl
    · exact hGt hg
    · obtain ⟨c, hc⟩ := hr.block e
      exact absurd (cells_type hc hL0) (by decide)
  refine ⟨fun k => G k ∨ k = L', TwAt.next hs (G := G) hI hFt hGt hGF hfg htl hu1 (fun k hk => ?_) (aw := aw) (cap := cap) hb
      (hr.stable hu fun k hk e => hnL k e (hvb k hk) hk) (fun k hk => .inl (hvb k hk)) ⟨L', capL', _, _, rfl, hL, hsz, h2, by omega, hm, .inr rfl, h0, own_stable ho0 hu fun k hk e => ?_, fun k hk => .inl (hG0 k hk), fun j v hj hv => ?_, fun _ => ⟨a1, p1, h1⟩⟩, fun k hk => ?_, hu1⟩
  · rcases hk with hk | rfl
    · exact ⟨.inl hk, Nat.lt_of_lt_of_le (hGl k hk) hu.size⟩
    · refine ⟨?_, heap_lt hL⟩
      rcases hL' with rfl | h
      · exact .inl hGL
      · exact .inr h
  · rcases e with rfl | rfl
    · exact hGt (hG0 _ hk)
    · obtain ⟨c, hc⟩ := own_block ho0 hk
      exact absurd (cells_type hc hL0) (by decide)
  · by_cases hj2 : 2 ≤ j
    · exact hrest j v hj2 hv
    · obtain rfl : j = 1 := by omega
      rw [h1] at hv
      exact ⟨a1, 0, p1, (Option.some.inj hv).symm, Nat.zero_le _, hp1⟩
  · rcases hk with hk | rfl
    · exact .inl hk
    · rcases hL' with rfl | h
      · exact .inl hGL
      · exact .inr h

set_option maxRecDepth 100000 in
set_option maxHeartbeats 4000000 in
/-- addLine(false) where one line is in use. -/
theorem tw_addLine1 {S : Sink} (hs : S.Law Tryz.prog 531) {tb : Nat} {w : World} {G Fs : Nat → Prop} {inner t : List UInt8} {twd fg pos cs : Nat} {cw : Int} {ht : Bool} {x : TCell}
    (h : TwAt S tb w G Fs inner t twd fg pos cs cw ht 1 [x]) :
    Calls Tryz.prog 109 #[.pointer (some ⟨tb, 0, none⟩), .bool false] w fun e w' => e = .returned (.tuple #[]) ∧ ∃ G', TwAt S tb w' G' Fs inner t twd fg pos cs cw ht 2 [x] ∧ (∀ k, G' k → G k ∨ w.heap.size ≤ k) ∧ Upd (fun k => k = tb ∨ G k) w w' := by
  obtain ⟨vb, vl, aw, cap, hb, hr, hvb, ⟨L, capL, cur, v0, rfl, hL, hcs, hnc, hc1, hcm, hGL, h0, ho0, hG0, hrest, _⟩, hI, hFt, hGt, hGF, hGl, hfg⟩ := h
  obtain ⟨a0, p0, hv0, hle0⟩ : ∃ ao c, v0 = .slice ao 1 c ∧ 1 ≤ c := by
    rcases ho0.2 with ⟨h1, h2⟩ | ⟨g, cap, cur, h1, _, _, h2, _⟩
    · exact absurd h2 (by simp)
    · exact ⟨_, _, h1, h2⟩
  subst hv0
  have htL : ¬ tb = L := fun e => hGt (e ▸ hGL)
  have hLt : ¬ L = tb := fun e => htL e.symm
  have c19 : w.cell? ⟨tb, 19, none⟩ = some (.slice (some ⟨L, 0, none⟩) 1 capL) := cell_at hb 19
  have f19 : w.frozen? ⟨tb, 19, none⟩ = false := frozen_at hb 19
  have cL0 : w.cell? ⟨L, 0, none⟩ = some (.slice a0 1 p0) := by rw [cell_at hL]; exact h0
  have fL1 : w.frozen? ⟨L, 1, none⟩ = false := frozen_at hL 1
  have hmk : ∀ W : World, ∃ cur : Array Value, (Instr.makeSlice 313 (.int .i64 0) (.int .i64 1)).run Tryz.prog W = .ok (.slice (some ⟨W.heap.size, 0, none⟩) 0 1) (W.alloc (.cells cur 75)) := fun W => by
    obtain ⟨i, hi, hz, hsz, hby⟩ : ∃ i, Tryz.prog.info? 75 = some i ∧ i.zero = some (.agg #[.int .i64 0, .int .i64 0, .bool false]) ∧ i.size = 3 ∧ i.bytes = 24 := ⟨_, rfl, rfl, rfl, rfl⟩
    exact ⟨_, run_make W 313 75 i _ Tryz.underlying313 hi hz .i64 .i64 0 1 (by decide) (by decide) (by rw [hby]; decide) (by decide)⟩
  by_cases hc2 : 2 ≤ capL
  · -- there is room for a line
    obtain ⟨v1, hv1⟩ : ∃ v, cur[1]? = some v := ⟨_, Array.getElem?_eq_getElem (by omega)⟩
    obtain ⟨a1, n1, p1, rfl, hn1, hp1⟩ := hrest 1 v1 (Nat.le_refl _) hv1
    have cL1 : w.cell? ⟨L, 1, none⟩ = some (.slice a1 n1 p1) := by rw [cell_at hL]; exact hv1
    have hc2I : (2 : Int) ≤ (capL : Int) := by omega
    by_cases hp : 1 ≤ p1
    · have hpI : ¬ (p1 : Int) < 1 := by omega
      have hend : ∃ G', TwAt S tb ((w.setCell ⟨tb, 19, none⟩ (.slice (some ⟨L, 0, none⟩) 2 capL)).setCell ⟨L, 1, none⟩ (.slice a1 0 p1)).drew G' Fs inner t twd fg pos cs cw ht 2 [x] ∧ (∀ k, G' k → G k ∨ w.heap.size ≤ k) ∧
          Upd (fun k => k = tb ∨ G k) w ((w.setCell ⟨tb, 19, none⟩ (.slice (some ⟨L, 0, none⟩) 2 capL)).setCell ⟨L, 1, none⟩ (.slice a1 0 p1)).drew := by
        refine tw_line2 hs hI hFt hGt hGF hfg (heap_lt hb) hGl hr hvb ho0 hG0 hGL hL (cap := cap) (aw := aw) (a1 := a1) (p1 := p1) (L' := L) (capL' := capL) (cur' := cur.setIfInBounds 1 (.slice a1 0 p1))
          (Upd.drew (Upd.setCell (F := fun k => k = tb ∨ k = L) (Upd.setCell (F := fun k => k = tb ∨ k = L) (Upd.refl _ w) (p := ⟨tb, 19, none⟩) (.inl (.inl rfl)) _) (p := ⟨L, 1, none⟩) (.inl (.inr rfl)) _)) (.inl rfl) ?_ ?_ (by simpa using hcs) hc2 hcm ?_ ?_ hp1 fun j v hj hv => ?_
        · refine (Below.heap_setCell _ _ _ _ htL).trans ((heap_setCell_at _ hb).trans ?_)
          simp [twCells]
        · exact heap_setCell_at _ ((Below.heap_setCell _ _ _ _ hLt).trans hL)
        · rw [Array.getElem?_setIfInBounds_ne (by omega)]; exact h0
        · rw [Array.getElem?_setIfInBounds_self, if_pos (by omega)]
        · rw [Array.getElem?_setIfInBounds_ne (by omega)] at hv
          exact hrest j v (by omega) hv
      have HEnd := Lib.hid hend
      clear hend hb hL hr hvb hcs hnc hcm hGL h0 ho0 hG0 hrest hI hFt hGt hGF hGl hfg hv1 hmk
      go_enter Tryz.func109, Tryz.ntmps109
      go_wp2_with fail
      go_region
      go_wp2
      go_end0
      exact ⟨rfl, HEnd.out⟩
    · obtain rfl : p1 = 0 := by omega
      obtain rfl : n1 = 0 := by omega
      obtain ⟨curN, hmkN⟩ := hmk ((w.setCell ⟨tb, 19, none⟩ (.slice (some ⟨L, 0, none⟩) 2 capL)).setCell ⟨L, 1, none⟩ (.slice a1 0 0)).drew.drew
      rw [show ((w.setCell ⟨tb, 19, none⟩ (.slice (some ⟨L, 0, none⟩) 2 capL)).setCell ⟨L, 1, none⟩ (.slice a1 0 0)).drew.drew.heap.size = w.heap.size by simp] at hmkN
      have hU : Upd (fun k => k = tb ∨ k = L) w ((((w.setCell ⟨tb, 19, none⟩ (.slice (some ⟨L, 0, none⟩) 2 capL)).setCell ⟨L, 1, none⟩ (.slice a1 0 0)).alloc (.cells curN 75)).drew.drew) :=
        (((Upd.setCell (F := fun k => k = tb ∨ k = L) (Upd.setCell (F := fun k => k = tb ∨ k = L) (Upd.refl _ w) (p := ⟨tb, 19, none⟩) (.inl (.inl rfl)) _) (p := ⟨L, 1, none⟩) (.inl (.inr rfl)) _).alloc _).drew).drew
      have hbN : ((((w.setCell ⟨tb, 19, none⟩ (.slice (some ⟨L, 0, none⟩) 2 capL)).setCell ⟨L, 1, none⟩ (.slice a1 0 0)).alloc (.cells curN 75)).drew.drew).heap[tb]? = some (.cells (twCells S twd fg vb pos cs cw ht (.slice (some ⟨L, 0, none⟩) 2 capL) (.slice aw 0 cap)) 79 (0, 0)) := by
        refine (Below.heap_alloc _ _ _ (by simpa using heap_lt hb)).trans ((Below.heap_setCell _ _ _ _ htL).trans ((heap_setCell_at _ hb).trans ?_))
        simp [twCells]
      have hLN : ((((w.setCell ⟨tb, 19, none⟩ (.slice (some ⟨L, 0, none⟩) 2 capL)).setCell ⟨L, 1, none⟩ (.slice a1 0 0)).alloc (.cells curN 75)).drew.drew).heap[L]? = some (.cells (cur.setIfInBounds 1 (.slice a1 0 0)) 313 (0, 0)) :=
        (Below.heap_alloc _ _ _ (by simpa using heap_lt hL)).trans (heap_setCell_at _ ((Below.heap_setCell _ _ _ _ hLt).trans hL))
      have b19 : ((((w.setCell ⟨tb, 19, none⟩ (.slice (some ⟨L, 0, none⟩) 2 capL)).setCell ⟨L, 1, none⟩ (.slice a1 0 0)).alloc (.cells curN 75)).drew.drew).cell? ⟨tb, 19, none⟩ = some (.slice (some ⟨L, 0, none⟩) 2 capL) := cell_at hbN 19
      have bL1 : ((((w.setCell ⟨tb, 19, none⟩ (.slice (some ⟨L, 0, none⟩) 2 capL)).setCell ⟨L, 1, none⟩ (.slice a1 0 0)).alloc (.cells curN 75)).drew.drew).cell? ⟨L, 1, none⟩ = some (.slice a1 0 0) := by rw [cell_at hLN, Array.getElem?_setIfInBounds_self, if_pos (by omega)]
      have gL1 : ((((w.setCell ⟨tb, 19, none⟩ (.slice (some ⟨L, 0, none⟩) 2 capL)).setCell ⟨L, 1, none⟩ (.slice a1 0 0)).alloc (.cells curN 75)).drew.drew).frozen? ⟨L, 1, none⟩ = false := frozen_at hLN 1
      have hend : ∃ G', TwAt S tb (((((w.setCell ⟨tb, 19, none⟩ (.slice (some ⟨L, 0, none⟩) 2 capL)).setCell ⟨L, 1, none⟩ (.slice a1 0 0)).alloc (.cells curN 75)).drew.drew).setCell ⟨L, 1, none⟩ (.slice (some ⟨w.heap.size, 0, none⟩) 0 1)) G' Fs inner t twd fg pos cs cw ht 2 [x] ∧ (∀ k, G' k → G k ∨ w.heap.size ≤ k) ∧
          Upd (fun k => k = tb ∨ G k) w (((((w.setCell ⟨tb, 19, none⟩ (.slice (some ⟨L, 0, none⟩) 2 capL)).setCell ⟨L, 1, none⟩ (.slice a1 0 0)).alloc (.cells curN 75)).drew.drew).setCell ⟨L, 1, none⟩ (.slice (some ⟨w.heap.size, 0, none⟩) 0 1)) := by
        refine tw_line2 hs hI hFt hGt hGF hfg (heap_lt hb) hGl hr hvb ho0 hG0 hGL hL (cap := cap) (aw := aw) (a1 := some ⟨w.heap.size, 0, none⟩) (p1 := 1) (L' := L) (capL' := capL) (cur' := (cur.setIfInBounds 1 (.slice a1 0 0)).setIfInBounds 1 (.slice (some ⟨w.heap.size, 0, none⟩) 0 1))
          (Upd.setCell (F := fun k => k = tb ∨ k = L) hU (p := ⟨L, 1, none⟩) (.inl (.inr rfl)) _) (.inl rfl) ?_ ?_ (by simpa using hcs) hc2 hcm ?_ ?_ (by decide) fun j v hj hv => ?_
        · exact (Below.heap_setCell _ _ _ _ htL).trans hbN
        · exact heap_setCell_at _ hLN
        · rw [Array.getElem?_setIfInBounds_ne (by omega), Array.getElem?_setIfInBounds_ne (by omega)]; exact h0
        · rw [Array.getElem?_setIfInBounds_self, if_pos (by simp; omega)]
        · rw [Array.getElem?_setIfInBounds_ne (by omega), Array.getElem?_setIfInBounds_ne (by omega)] at hv
          exact hrest j v (by omega) hv
      have HEnd := Lib.hid hend
      clear hend hbN hLN hU hb hL hr hvb hcs hnc hcm hGL h0 ho0 hG0 hrest hI hFt hGt hGF hGl hfg hv1 hmk
      go_enter Tryz.func109, Tryz.ntmps109
      go_wp2_with fail
      go_region
      go_wp2_with fail
      go_region
      all_goals go_wp2_with fail
      all_goals go_end0
      all_goals exact ⟨rfl, HEnd.out⟩
  · obtain rfl : capL = 1 := by omega
    -- the row of lines grows
    obtain ⟨i, hi, hz, hsz, hby⟩ : ∃ i, Tryz.prog.info? 313 = some i ∧ i.zero = some (.slice none 0 0) ∧ i.size = 1 ∧ i.bytes = 24 := ⟨_, rfl, rfl, rfl, rfl⟩
    have hcur : cur.toList = [.slice a0 1 p0] := by
      have h1 : cur.toList.length = 1 := by simpa using hcs
      obtain ⟨a, ha⟩ := List.length_eq_one_iff.1 h1
      have h2 : cur.toList[0]? = some (.slice a0 1 p0) := by simpa using h0
      rw [ha] at h2 ⊢
      simpa using h2
    have hA : Upd (fun _ => False) w (w.alloc (.cells #[.slice none 0 0] 313)) := (Upd.refl _ w).alloc _
    have hNew : (w.alloc (.cells #[.slice none 0 0] 313)).heap[w.heap.size]? = some (.cells #[.slice none 0 0] 313 (0, 0)) := heap_alloc_new w _
    have hLA : (w.alloc (.cells #[.slice none 0 0] 313)).heap[L]? = some (.cells cur 313 (0, 0)) := (Below.heap_alloc _ _ _ (heap_lt hL)).trans hL
    have hgr := run_append_grow (P := Tryz.prog) (w.alloc (.cells #[.slice none 0 0] 313)) 76 76 313 i (.slice none 0 0) Tryz.underlying76 hi hz ⟨L, 0, none⟩ 1 1 [.slice a0 1 p0] (by rw [hsz]; rfl)
      (fun j u hj => by rw [Addr.add_lit, cell_at hLA, Nat.zero_add, ← Array.getElem?_toList, hcur]; exact hj) ⟨w.heap.size, 0, none⟩ 1 1 [.slice none 0 0] (by rw [hsz]; rfl)
      (fun j u hj => by rw [Addr.add_lit, cell_at hNew, Nat.zero_add]; simpa using hj) (by omega) (by decide) (by rw [hby]; exact growslice_fits (by omega) (by decide))
    generalize hcap : grownCap (w.alloc (.cells #[.slice none 0 0] 313)) (1 + 1) 1 313 = cap2 at hgr
    have hge : 2 ≤ cap2 := by rw [← hcap]; exact grownCap_ge _ _ _ _
    have hle : cap2 ≤ maxLen := by rw [← hcap]; exact grownCap_le_maxLen _ _ _ _ (by decide)
    obtain ⟨w1, N, cur2, hr1, hN1, hNge, hU1, hcs2, h20, h21, h2r⟩ : ∃ (w1 : World) (N : Nat) (cur2 : Array Value), (Builtin.append_ #[76, 76] 76 #[.slice (some ⟨L, 0, none⟩) 1 1, .slice (some ⟨w.heap.size, 0, none⟩) 1 1]).run Tryz.prog (w.alloc (.cells #[.slice none 0 0] 313)) = .ok (.slice (some ⟨N, 0, none⟩) 2 cap2) w1 ∧
        w1.heap[N]? = some (.cells cur2 313 (0, 0)) ∧ w.heap.size ≤ N ∧ Upd (fun _ => False) w w1 ∧ cur2.size = cap2 ∧ cur2[0]? = some (.slice a0 1 p0) ∧ cur2[1]? = some (.slice none 0 0) ∧ (∀ j v, 2 ≤ j → cur2[j]? = some v → v = .slice none 0 0) := by
      refine ⟨_, _, _, hgr, heap_alloc_new _ _, by simp, (hA.drew).alloc _, ?_, by rw [Array.getElem?_append_left (by simp)]; rfl, by rw [Array.getElem?_append_left (by simp)]; rfl, fun j v hj hv => ?_⟩
      · simp [size_zeroCells, Value.cells]; omega
      · rw [Array.getElem?_append_right (by simpa using hj)] at hv
        exact mem_zeroCells (x := .slice none 0 0) hv
    clear hgr hcap hNew hLA hA hcur hi hz hsz hby
    have htN : ¬ tb = N := fun e => by have := heap_lt hb; omega
    have hNt : ¬ N = tb := fun e => htN e.symm
    have hb1 := hU1.heap hb fun h => h
    have c191 : w1.cell? ⟨tb, 19, none⟩ = some (.slice (some ⟨L, 0, none⟩) 1 1) := cell_at hb1 19
    have f191 : w1.frozen? ⟨tb, 19, none⟩ = false := frozen_at hb1 19
    have n0 : w1.cell? ⟨N, 0, none⟩ = some (.slice a0 1 p0) := by rw [cell_at hN1]; exact h20
    have n1 : w1.cell? ⟨N, 1, none⟩ = some (.slice none 0 0) := by rw [cell_at hN1]; exact h21
    have g1 : w1.frozen? ⟨N, 1, none⟩ = false := frozen_at hN1 1
    obtain ⟨curN, hmkN⟩ := hmk (w1.setCell ⟨tb, 19, none⟩ (.slice (some ⟨N, 0, none⟩) 2 cap2)).drew
    rw [show (w1.setCell ⟨tb, 19, none⟩ (.slice (some ⟨N, 0, none⟩) 2 cap2)).drew.heap.size = w1.heap.size by simp] at hmkN
    have hUN : Upd (fun k => k = tb ∨ k = L) w (((w1.setCell ⟨tb, 19, none⟩ (.slice (some ⟨N, 0, none⟩) 2 cap2)).alloc (.cells curN 75)).drew) :=
      ((Upd.setCell (F := fun k => k = tb ∨ k = L) (hU1.mono fun _ h => h.elim) (p := ⟨tb, 19, none⟩) (.inl (.inl rfl)) _).alloc _).drew
    have hbN : (((w1.setCell ⟨tb, 19, none⟩ (.slice (some ⟨N, 0, none⟩) 2 cap2)).alloc (.cells curN 75)).drew).heap[tb]? = some (.cells (twCells S twd fg vb pos cs cw ht (.slice (some ⟨N, 0, none⟩) 2 cap2) (.slice aw 0 cap)) 79 (0, 0)) := by
      refine (Below.heap_alloc _ _ _ (by simpa using heap_lt hb1)).trans ((heap_setCell_at _ hb1).trans ?_)
      simp [twCells]
    have hNN : (((w1.setCell ⟨tb, 19, none⟩ (.slice (some ⟨N, 0, none⟩) 2 cap2)).alloc (.cells curN 75)).drew).heap[N]? = some (.cells cur2 313 (0, 0)) :=
      (Below.heap_alloc _ _ _ (by simpa using heap_lt hN1)).trans ((Below.heap_setCell _ _ _ _ hNt).trans hN1)
    have b19 : (((w1.setCell ⟨tb, 19, none⟩ (.slice (some ⟨N, 0, none⟩) 2 cap2)).alloc (.cells curN 75)).drew).cell? ⟨tb, 19, none⟩ = some (.slice (some ⟨N, 0, none⟩) 2 cap2) := cell_at hbN 19
    have bL1 : (((w1.setCell ⟨tb, 19, none⟩ (.slice (some ⟨N, 0, none⟩) 2 cap2)).alloc (.cells curN 75)).drew).cell? ⟨N, 1, none⟩ = some (.slice none 0 0) := by rw [cell_at hNN]; exact h21
    have gL1 : (((w1.setCell ⟨tb, 19, none⟩ (.slice (some ⟨N, 0, none⟩) 2 cap2)).alloc (.cells curN 75)).drew).frozen? ⟨N, 1, none⟩ = false := frozen_at hNN 1
    have hend : ∃ G', TwAt S tb ((((w1.setCell ⟨tb, 19, none⟩ (.slice (some ⟨N, 0, none⟩) 2 cap2)).alloc (.cells curN 75)).drew).setCell ⟨N, 1, none⟩ (.slice (some ⟨w1.heap.size, 0, none⟩) 0 1)) G' Fs inner t twd fg pos cs cw ht 2 [x] ∧ (∀ k, G' k → G k ∨ w.heap.size ≤ k) ∧
        Upd (fun k => k = tb ∨ G k) w ((((w1.setCell ⟨tb, 19, none⟩ (.slice (some ⟨N, 0, none⟩) 2 cap2)).alloc (.cells curN 75)).drew).setCell ⟨N, 1, none⟩ (.slice (some ⟨w1.heap.size, 0, none⟩) 0 1)) := by
      refine tw_line2 hs hI hFt hGt hGF hfg (heap_lt hb) hGl hr hvb ho0 hG0 hGL hL (cap := cap) (aw := aw) (a1 := some ⟨w1.heap.size, 0, none⟩) (p1 := 1) (L' := N) (capL' := cap2) (cur' := cur2.setIfInBounds 1 (.slice (some ⟨w1.heap.size, 0, none⟩) 0 1))
        (Upd.setCell (F := fun k => k = tb ∨ k = L) hUN (p := ⟨N, 1, none⟩) (.inr hNge) _) (.inr hNge) ?_ ?_ (by simpa using hcs2) hge hle ?_ ?_ (by decide) fun j v hj hv => ?_
      · exact (Below.heap_setCell _ _ _ _ htN).trans hbN
      · exact heap_setCell_at _ hNN
      · rw [Array.getElem?_setIfInBounds_ne (by omega)]; exact h20
      · rw [Array.getElem?_setIfInBounds_self, if_pos (by omega)]
      · rw [Array.getElem?_setIfInBounds_ne (by omega)] at hv
        exact ⟨none, 0, 0, h2r j v hj hv, Nat.le_refl _, by decide⟩
    have HEnd := Lib.hid hend
    have HR1 := Lib.hid hr1
    clear hend hr1 hbN hNN hUN hb1 hU1 hN1 hb hL hr hvb hcs hnc hcm hGL h0 ho0 hG0 hrest hI hFt hGt hGF hGl hfg hmk hcs2 h20 h21 h2r hge hle
    go_enter Tryz.func109, Tryz.ntmps109
    go_wp2_with (at_builtin; refine wpList_append_run rfl _ _ _ rfl rfl rfl HR1.out ?_)
    go_region
    all_goals go_wp2_with fail
    all_goals go_end0
    all_goals exact ⟨rfl, HEnd.out⟩
end Go.Proofs.YtnhmgjgdkcgmfaaGreatFmt
