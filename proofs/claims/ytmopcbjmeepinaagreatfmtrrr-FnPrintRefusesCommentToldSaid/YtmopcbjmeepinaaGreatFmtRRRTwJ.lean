/-
  tabwriter.Writer: reset, from whatever state.
-/
import Derived.Test.YtmopcbjmeepinaaGreatFmtRRRTwE
import Derived.Test.YtmopcbjmeepinaaGreatFmtRRRTwF
namespace Go.Proofs.YtmopcbjmeepinaaGreatFmtRRR
open Go.RowKit

/-- The Writer's state as reset may find it: the text, the lines and the cell are whatever they are. -/
def TwPre (S : Sink) (tb : Nat) (w : World) (G Fs : Nat → Prop) (inner : List UInt8) (twd fg : Nat) : Prop :=
  ∃ vb t pos cs cw ht vl aw cap, w.heap[tb]? = some (.cells (twCells S twd fg vb pos cs cw ht vl (.slice aw 0 cap)) 111 (0, 0)) ∧ Row w vb t ∧ (∀ k, vb.ownBlock = some k → G k) ∧ (vl = .slice none 0 0 ∨ ∃ nl c0, TwLines w G vl nl c0) ∧
    S.I w Fs inner ∧ ¬ Fs tb ∧ ¬ G tb ∧ (∀ k, G k → ¬ Fs k) ∧ (∀ k, G k → k < w.heap.size) ∧ (fg = 10 ∨ fg = 26)

theorem TwAt.pre {S : Sink} {tb : Nat} {w : World} {G Fs : Nat → Prop} {inner t : List UInt8} {twd fg pos cs : Nat} {cw : Int} {ht : Bool} {nl : Nat} {c0 : List TCell} (h : TwAt S tb w G Fs inner t twd fg pos cs cw ht nl c0) : TwPre S tb w G Fs inner twd fg := by
  obtain ⟨vb, vl, aw, cap, hb, hr, hvb, hl, h⟩ := h
  exact ⟨vb, t, pos, cs, cw, ht, vl, aw, cap, hb, hr, hvb, .inr ⟨nl, c0, hl⟩, h⟩

theorem row_trunc {w : World} {vb : Value} {t : List UInt8} (h : Row w vb t) : ∃ ao c, vb = .slice ao t.length c ∧ Row w (.slice ao 0 c) [] := by
  obtain ⟨ao, c, rfl⟩ := h.form
  exact ⟨ao, c, rfl, own_trunc h⟩

theorem TwLines.trunc {w : World} {G : Nat → Prop} {vl : Value} {nl : Nat} {c0 : List TCell} (h : TwLines w G vl nl c0) : ∃ L cap, vl = .slice (some ⟨L, 0, none⟩) nl cap ∧ nl ≤ cap ∧ TwLines w G (.slice (some ⟨L, 0, none⟩) 0 cap) 0 c0 := by
  obtain ⟨L, capL, cur, v0, rfl, hL, hcs, hnc, hc1, hcm, hGL, h0, ho0, hG0, hrest, h1⟩ := h
  exact ⟨L, capL, rfl, hnc, L, capL, cur, v0, rfl, hL, hcs, Nat.zero_le _, hc1, hcm, hGL, h0, ho0, hG0, hrest, fun h => absurd h (by omega)⟩

set_option maxRecDepth 100000 in
set_option maxHeartbeats 4000000 in
/-- addLine(true) where there is no row of lines yet. -/
theorem tw_addLineN {S : Sink} (hs : S.Law Tryz.prog 548) {tb : Nat} {w : World} {G Fs : Nat → Prop} {inner t : List UInt8} {twd fg pos cs : Nat} {cw : Int} {ht : Bool} {vb : Value} {aw : Option Addr} {cap : Nat}
    (hb : w.heap[tb]? = some (.cells (twCells S twd fg vb pos cs cw ht (.slice none 0 0) (.slice aw 0 cap)) 111 (0, 0))) (hr : Row w vb t) (hvb : ∀ k, vb.ownBlock = some k → G k)
    (hI : S.I w Fs inner) (hFt : ¬ Fs tb) (hGt : ¬ G tb) (hGF : ∀ k, G k → ¬ Fs k) (hGl : ∀ k, G k → k < w.heap.size) (hfg : fg = 10 ∨ fg = 26) :
    Calls Tryz.prog 146 #[.pointer (some ⟨tb, 0, none⟩), .bool true] w fun e w' => e = .returned (.tuple #[]) ∧ ∃ G', TwAt S tb w' G' Fs inner t twd fg pos cs cw ht 1 [] ∧ (∀ k, G' k → G k ∨ w.heap.size ≤ k) ∧ Upd (fun k => k = tb ∨ G k) w w' := by
  have c19 : w.cell? ⟨tb, 19, none⟩ = some (.slice none 0 0) := cell_at hb 19
  have f19 : w.frozen? ⟨tb, 19, none⟩ = false := frozen_at hb 19
  obtain ⟨i, hi, hz, hsz, hby⟩ : ∃ i, Tryz.prog.info? 331 = some i ∧ i.zero = some (.slice none 0 0) ∧ i.size = 1 ∧ i.bytes = 24 := ⟨_, rfl, rfl, rfl, rfl⟩
  have hA : Upd (fun _ => False) w (w.alloc (.cells #[.slice none 0 0] 331)) := (Upd.refl _ w).alloc _
  have hNew : (w.alloc (.cells #[.slice none 0 0] 331)).heap[w.heap.size]? = some (.cells #[.slice none 0 0] 331 (0, 0)) := heap_alloc_new w _
  have hgr := run_append_nil (P := Tryz.prog) (w.alloc (.cells #[.slice none 0 0] 331)) 108 108 331 i (.slice none 0 0) Tryz.underlying108 hi hz
    ⟨w.heap.size, 0, none⟩ 1 1 [.slice none 0 0] (by rw [hsz]; rfl)
    (fun j u hj => by rw [Addr.add_lit, cell_at hNew, Nat.zero_add]; simpa using hj) (by decide) (by decide) (by rw [hby]; decide)
  generalize hcap : grownCap (w.alloc (.cells #[.slice none 0 0] 331)) 1 0 331 = cap2 at hgr
  have hge : 1 ≤ cap2 := by rw [← hcap]; exact grownCap_ge _ _ _ _
  have hle : cap2 ≤ maxLen := by rw [← hcap]; exact grownCap_le_maxLen _ _ _ _ (by decide)
  obtain ⟨w1, N, cur2, hr1, hN1, hNge, hU1, hcs2, h20, h2r⟩ : ∃ (w1 : World) (N : Nat) (cur2 : Array Value), (Builtin.append_ #[108, 108] 108 #[.slice none 0 0, .slice (some ⟨w.heap.size, 0, none⟩) 1 1]).run Tryz.prog (w.alloc (.cells #[.slice none 0 0] 331)) = .ok (.slice (some ⟨N, 0, none⟩) 1 cap2) w1 ∧
      w1.heap[N]? = some (.cells cur2 331 (0, 0)) ∧ w.heap.size ≤ N ∧ Upd (fun _ => False) w w1 ∧ cur2.size = cap2 ∧ cur2[0]? = some (.slice none 0 0) ∧ (∀ j v, 1 ≤ j → cur2[j]? = some v → v = .slice none 0 0) := by
    refine ⟨_, _, _, hgr, heap_alloc_new _ _, by simp, (hA.drew).alloc _, ?_, by rw [Array.getElem?_append_left (by simp)]; rfl, fun j v hj hv => ?_⟩
    · simp [size_zeroCells, Value.cells]; omega
    · rw [Array.getElem?_append_right (by simpa using hj)] at hv
      exact mem_zeroCells (x := .slice none 0 0) hv
  clear hgr hcap hNew hA hi hz hsz hby
  have htN : ¬ tb = N := fun e => by have := heap_lt hb; omega
  have hNt : ¬ N = tb := fun e => htN e.symm
  have hb1 := hU1.heap hb fun h => h
  have c191 : w1.cell? ⟨tb, 19, none⟩ = some (.slice none 0 0) := cell_at hb1 19
  have f191 : w1.frozen? ⟨tb, 19, none⟩ = false := frozen_at hb1 19
  have hend : ∃ G', TwAt S tb (w1.setCell ⟨tb, 19, none⟩ (.slice (some ⟨N, 0, none⟩) 1 cap2)) G' Fs inner t twd fg pos cs cw ht 1 [] ∧ (∀ k, G' k → G k ∨ w.heap.size ≤ k) ∧ Upd (fun k => k = tb ∨ G k) w (w1.setCell ⟨tb, 19, none⟩ (.slice (some ⟨N, 0, none⟩) 1 cap2)) := by
    have hu0 : Upd (fun k => k = tb) w (w1.setCell ⟨tb, 19, none⟩ (.slice (some ⟨N, 0, none⟩) 1 cap2)) := Upd.setCell (F := fun k => k = tb) (hU1.mono fun _ h => h.elim) (p := ⟨tb, 19, none⟩) (.inl rfl) _
    have hu := hu0.mono (G := fun k => k = tb ∨ G k) fun k hk => .inl hk
    have hNW : (w1.setCell ⟨tb, 19, none⟩ (.slice (some ⟨N, 0, none⟩) 1 cap2)).heap[N]? = some (.cells cur2 331 (0, 0)) := (Below.heap_setCell _ _ _ _ hNt).trans hN1
    refine ⟨fun k => G k ∨ k = N, TwAt.next hs hI hFt hGt hGF hfg (heap_lt hb) hu (fun k hk => ?_) (aw := aw) (cap := cap) (vb := vb) ?_ (hr.stable hu0 fun k hk e => hGt (e ▸ hvb k hk)) (fun k hk => .inl (hvb k hk))
      ⟨N, cap2, cur2, _, rfl, hNW, hcs2, hge, hge, hle, .inr rfl, h20, World.ownsRow_nil _ _ _ _, fun k hk => absurd hk (by simp [Value.ownBlock]), fun j v hj hv => ⟨none, 0, 0, h2r j v hj hv, Nat.le_refl _, by decide⟩, fun h => absurd h (by omega)⟩, fun k hk => ?_, hu⟩
    · rcases hk with hk | rfl
      · exact ⟨.inl hk, Nat.lt_of_lt_of_le (hGl k hk) hu.size⟩
      · exact ⟨.inr hNge, heap_lt hNW⟩
    · refine (heap_setCell_at _ hb1).trans ?_
      simp [twCells]
    · rcases hk with hk | rfl
      · exact .inl hk
      · exact .inr hNge
  have HEnd := Lib.hid hend
  have HR1 := Lib.hid hr1
  clear hend hr1 hb1 hU1 hN1 hb hr hvb hI hFt hGt hGF hGl hfg hcs2 h20 h2r hge hle
  go_enter Tryz.func146, Tryz.ntmps146
  go_wp2_with (at_builtin; refine wpList_append_run rfl _ _ _ rfl rfl rfl HR1.out ?_)
  go_end0
  exact ⟨rfl, HEnd.out⟩

/-- What reset leaves. -/
def TwFresh (S : Sink) (tb : Nat) (G Fs : Nat → Prop) (inner : List UInt8) (twd fg : Nat) (w w' : World) : Prop :=
  ∃ G', TwAt S tb w' G' Fs inner [] twd fg 0 0 0 false 1 [] ∧ (∀ k, G' k → G k ∨ w.heap.size ≤ k) ∧ Upd (fun k => k = tb ∨ G k) w w'

set_option maxRecDepth 100000 in
set_option maxHeartbeats 4000000 in
theorem tw_reset {S : Sink} (hs : S.Law Tryz.prog 548) {tb : Nat} {w : World} {G Fs : Nat → Prop} {inner : List UInt8} {twd fg : Nat} (h : TwPre S tb w G Fs inner twd fg) :
    Calls Tryz.prog 83 #[.pointer (some ⟨tb, 0, none⟩)] w fun e w' => e = .returned (.tuple #[]) ∧ TwFresh S tb G Fs inner twd fg w w' := by
  obtain ⟨vb, t, pos, cs, cw, ht, vl, aw, cap, hb, hr, hvb, hl, hI, hFt, hGt, hGF, hGl, hfg⟩ := h
  obtain ⟨vo, vc, rfl, hr0⟩ := row_trunc hr
  have c13 : w.cell? ⟨tb, 13, none⟩ = some (.slice vo t.length vc) := cell_at hb 13
  have c14 : w.cell? ⟨tb, 14, none⟩ = some (.int .i64 (pos : Int)) := cell_at hb 14
  have c15 : w.cell? ⟨tb, 15, none⟩ = some (.int .i64 (cs : Int)) := cell_at hb 15
  have c16 : w.cell? ⟨tb, 16, none⟩ = some (.int .i64 cw) := cell_at hb 16
  have c17 : w.cell? ⟨tb, 17, none⟩ = some (.bool ht) := cell_at hb 17
  have c18 : w.cell? ⟨tb, 18, none⟩ = some (.int .u8 0) := cell_at hb 18
  have c19 : w.cell? ⟨tb, 19, none⟩ = some vl := cell_at hb 19
  have c20 : w.cell? ⟨tb, 20, none⟩ = some (.slice aw 0 cap) := cell_at hb 20
  have f13 : w.frozen? ⟨tb, 13, none⟩ = false := frozen_at hb 13
  have f14 : w.frozen? ⟨tb, 14, none⟩ = false := frozen_at hb 14
  have f15 : w.frozen? ⟨tb, 15, none⟩ = false := frozen_at hb 15
  have f16 : w.frozen? ⟨tb, 16, none⟩ = false := frozen_at hb 16
  have f17 : w.frozen? ⟨tb, 17, none⟩ = false := frozen_at hb 17
  have f18 : w.frozen? ⟨tb, 18, none⟩ = false := frozen_at hb 18
  have f19 : w.frozen? ⟨tb, 19, none⟩ = false := frozen_at hb 19
  have f20 : w.frozen? ⟨tb, 20, none⟩ = false := frozen_at hb 20
  rcases hl with rfl | ⟨nl, c0, hl⟩
  · have hu0 : Upd (fun k => k = tb) w ((((((((w.setCell ⟨tb, 13, none⟩ (.slice vo 0 vc)).setCell ⟨tb, 14, none⟩ (.int .i64 0)).setCell ⟨tb, 15, none⟩ (.int .i64 0)).setCell ⟨tb, 16, none⟩ (.int .i64 0)).setCell ⟨tb, 17, none⟩ (.bool false)).setCell ⟨tb, 18, none⟩ (.int .u8 0)).setCell ⟨tb, 19, none⟩ (.slice none 0 0)).setCell ⟨tb, 20, none⟩ (.slice aw 0 cap)) :=
      Upd.setCell (F := fun k => k = tb) (Upd.setCell (F := fun k => k = tb) (Upd.setCell (F := fun k => k = tb) (Upd.setCell (F := fun k => k = tb) (Upd.setCell (F := fun k => k = tb) (Upd.setCell (F := fun k => k = tb) (Upd.setCell (F := fun k => k = tb) (Upd.setCell (F := fun k => k = tb) (Upd.refl _ w)
        (p := ⟨tb, 13, none⟩) (.inl rfl) _) (p := ⟨tb, 14, none⟩) (.inl rfl) _) (p := ⟨tb, 15, none⟩) (.inl rfl) _) (p := ⟨tb, 16, none⟩) (.inl rfl) _) (p := ⟨tb, 17, none⟩) (.inl rfl) _) (p := ⟨tb, 18, none⟩) (.inl rfl) _) (p := ⟨tb, 19, none⟩) (.inl rfl) _) (p := ⟨tb, 20, none⟩) (.inl rfl) _
    have hu : Upd (fun k => k = tb ∨ G k) w ((((((((w.setCell ⟨tb, 13, none⟩ (.slice vo 0 vc)).setCell ⟨tb, 14, none⟩ (.int .i64 0)).setCell ⟨tb, 15, none⟩ (.int .i64 0)).setCell ⟨tb, 16, none⟩ (.int .i64 0)).setCell ⟨tb, 17, none⟩ (.bool false)).setCell ⟨tb, 18, none⟩ (.int .u8 0)).setCell ⟨tb, 19, none⟩ (.slice none 0 0)).setCell ⟨tb, 20, none⟩ (.slice aw 0 cap)) := hu0.mono fun k hk => .inl hk
    have hbW : ((((((((w.setCell ⟨tb, 13, none⟩ (.slice vo 0 vc)).setCell ⟨tb, 14, none⟩ (.int .i64 0)).setCell ⟨tb, 15, none⟩ (.int .i64 0)).setCell ⟨tb, 16, none⟩ (.int .i64 0)).setCell ⟨tb, 17, none⟩ (.bool false)).setCell ⟨tb, 18, none⟩ (.int .u8 0)).setCell ⟨tb, 19, none⟩ (.slice none 0 0)).setCell ⟨tb, 20, none⟩ (.slice aw 0 cap)).heap[tb]? = some (.cells (twCells S twd fg (.slice vo 0 vc) 0 0 0 false (.slice none 0 0) (.slice aw 0 cap)) 111 (0, 0)) := by
      refine (heap_setCell_at _ (heap_setCell_at _ (heap_setCell_at _ (heap_setCell_at _ (heap_setCell_at _ (heap_setCell_at _ (heap_setCell_at _ (heap_setCell_at _ hb)))))))).trans ?_
      simp [twCells]
    have hrW : Row ((((((((w.setCell ⟨tb, 13, none⟩ (.slice vo 0 vc)).setCell ⟨tb, 14, none⟩ (.int .i64 0)).setCell ⟨tb, 15, none⟩ (.int .i64 0)).setCell ⟨tb, 16, none⟩ (.int .i64 0)).setCell ⟨tb, 17, none⟩ (.bool false)).setCell ⟨tb, 18, none⟩ (.int .u8 0)).setCell ⟨tb, 19, none⟩ (.slice none 0 0)).setCell ⟨tb, 20, none⟩ (.slice aw 0 cap)) (.slice vo 0 vc) [] := hr0.stable hu0 fun k hk e => hGt (e ▸ hvb k (own_same hk))
    have hvW : ∀ k, (Value.slice vo 0 vc).ownBlock = some k → G k := fun k hk => hvb k (own_same hk)
    have hGW : ∀ k, G k → (G k ∨ w.heap.size ≤ k) ∧ k < ((((((((w.setCell ⟨tb, 13, none⟩ (.slice vo 0 vc)).setCell ⟨tb, 14, none⟩ (.int .i64 0)).setCell ⟨tb, 15, none⟩ (.int .i64 0)).setCell ⟨tb, 16, none⟩ (.int .i64 0)).setCell ⟨tb, 17, none⟩ (.bool false)).setCell ⟨tb, 18, none⟩ (.int .u8 0)).setCell ⟨tb, 19, none⟩ (.slice none 0 0)).setCell ⟨tb, 20, none⟩ (.slice aw 0 cap)).heap.size := fun k hk => ⟨.inl hk, Nat.lt_of_lt_of_le (hGl k hk) hu.size⟩
    obtain ⟨Q, HQ, HC⟩ := callsVar (tw_addLineN hs hbW hrW hvW (hs.stable hI hu0 fun k hk e => hFt (e ▸ hk)) hFt hGt hGF (fun k hk => (hGW k hk).2) hfg)
    have HU := Lib.hid hu
    clear hb hr hr0 hvb hI hFt hGt hGF hGl hfg hu0 hu hbW hrW hvW hGW
    go_enter Tryz.func83, Tryz.ntmps83
    go_wp2_with (go_at_call 146; refine HC.out.mono ?_)
    rintro e w1 hq
    obtain ⟨rfl, hP⟩ := HQ.out e w1 hq
    clear hq
    have HP := Lib.hid hP; clear hP
    go_wp2
    go_end0
    refine ⟨rfl, ?_⟩
    obtain ⟨G', h1, h2, h3⟩ := HP.out
    exact ⟨G', h1, fun k hk => (h2 k hk).imp id fun h => Nat.le_trans HU.out.size h, HU.out.trans h3⟩
  · obtain ⟨L, capL, rfl, hnl, hl0⟩ := hl.trunc
    have hnlI : (nl : Int) ≤ (capL : Int) := by omega
    have hu0 : Upd (fun k => k = tb) w ((((((((w.setCell ⟨tb, 13, none⟩ (.slice vo 0 vc)).setCell ⟨tb, 14, none⟩ (.int .i64 0)).setCell ⟨tb, 15, none⟩ (.int .i64 0)).setCell ⟨tb, 16, none⟩ (.int .i64 0)).setCell ⟨tb, 17, none⟩ (.bool false)).setCell ⟨tb, 18, none⟩ (.int .u8 0)).setCell ⟨tb, 19, none⟩ (.slice (some ⟨L, 0, none⟩) 0 capL)).setCell ⟨tb, 20, none⟩ (.slice aw 0 cap)) :=
      Upd.setCell (F := fun k => k = tb) (Upd.setCell (F := fun k => k = tb) (Upd.setCell (F := fun k => k = tb) (Upd.setCell (F := fun k => k = tb) (Upd.setCell (F := fun k => k = tb) (Upd.setCell (F := fun k => k = tb) (Upd.setCell (F := fun k => k = tb) (Upd.setCell (F := fun k => k = tb) (Upd.refl _ w)
        (p := ⟨tb, 13, none⟩) (.inl rfl) _) (p := ⟨tb, 14, none⟩) (.inl rfl) _) (p := ⟨tb, 15, none⟩) (.inl rfl) _) (p := ⟨tb, 16, none⟩) (.inl rfl) _) (p := ⟨tb, 17, none⟩) (.inl rfl) _) (p := ⟨tb, 18, none⟩) (.inl rfl) _) (p := ⟨tb, 19, none⟩) (.inl rfl) _) (p := ⟨tb, 20, none⟩) (.inl rfl) _
    have hu : Upd (fun k => k = tb ∨ G k) w ((((((((w.setCell ⟨tb, 13, none⟩ (.slice vo 0 vc)).setCell ⟨tb, 14, none⟩ (.int .i64 0)).setCell ⟨tb, 15, none⟩ (.int .i64 0)).setCell ⟨tb, 16, none⟩ (.int .i64 0)).setCell ⟨tb, 17, none⟩ (.bool false)).setCell ⟨tb, 18, none⟩ (.int .u8 0)).setCell ⟨tb, 19, none⟩ (.slice (some ⟨L, 0, none⟩) 0 capL)).setCell ⟨tb, 20, none⟩ (.slice aw 0 cap)) := hu0.mono fun k hk => .inl hk
    have hbW : ((((((((w.setCell ⟨tb, 13, none⟩ (.slice vo 0 vc)).setCell ⟨tb, 14, none⟩ (.int .i64 0)).setCell ⟨tb, 15, none⟩ (.int .i64 0)).setCell ⟨tb, 16, none⟩ (.int .i64 0)).setCell ⟨tb, 17, none⟩ (.bool false)).setCell ⟨tb, 18, none⟩ (.int .u8 0)).setCell ⟨tb, 19, none⟩ (.slice (some ⟨L, 0, none⟩) 0 capL)).setCell ⟨tb, 20, none⟩ (.slice aw 0 cap)).heap[tb]? = some (.cells (twCells S twd fg (.slice vo 0 vc) 0 0 0 false (.slice (some ⟨L, 0, none⟩) 0 capL) (.slice aw 0 cap)) 111 (0, 0)) := by
      refine (heap_setCell_at _ (heap_setCell_at _ (heap_setCell_at _ (heap_setCell_at _ (heap_setCell_at _ (heap_setCell_at _ (heap_setCell_at _ (heap_setCell_at _ hb)))))))).trans ?_
      simp [twCells]
    have hrW : Row ((((((((w.setCell ⟨tb, 13, none⟩ (.slice vo 0 vc)).setCell ⟨tb, 14, none⟩ (.int .i64 0)).setCell ⟨tb, 15, none⟩ (.int .i64 0)).setCell ⟨tb, 16, none⟩ (.int .i64 0)).setCell ⟨tb, 17, none⟩ (.bool false)).setCell ⟨tb, 18, none⟩ (.int .u8 0)).setCell ⟨tb, 19, none⟩ (.slice (some ⟨L, 0, none⟩) 0 capL)).setCell ⟨tb, 20, none⟩ (.slice aw 0 cap)) (.slice vo 0 vc) [] := hr0.stable hu0 fun k hk e => hGt (e ▸ hvb k (own_same hk))
    have hvW : ∀ k, (Value.slice vo 0 vc).ownBlock = some k → G k := fun k hk => hvb k (own_same hk)
    have hGW : ∀ k, G k → (G k ∨ w.heap.size ≤ k) ∧ k < ((((((((w.setCell ⟨tb, 13, none⟩ (.slice vo 0 vc)).setCell ⟨tb, 14, none⟩ (.int .i64 0)).setCell ⟨tb, 15, none⟩ (.int .i64 0)).setCell ⟨tb, 16, none⟩ (.int .i64 0)).setCell ⟨tb, 17, none⟩ (.bool false)).setCell ⟨tb, 18, none⟩ (.int .u8 0)).setCell ⟨tb, 19, none⟩ (.slice (some ⟨L, 0, none⟩) 0 capL)).setCell ⟨tb, 20, none⟩ (.slice aw 0 cap)).heap.size := fun k hk => ⟨.inl hk, Nat.lt_of_lt_of_le (hGl k hk) hu.size⟩
    have hlW : TwLines ((((((((w.setCell ⟨tb, 13, none⟩ (.slice vo 0 vc)).setCell ⟨tb, 14, none⟩ (.int .i64 0)).setCell ⟨tb, 15, none⟩ (.int .i64 0)).setCell ⟨tb, 16, none⟩ (.int .i64 0)).setCell ⟨tb, 17, none⟩ (.bool false)).setCell ⟨tb, 18, none⟩ (.int .u8 0)).setCell ⟨tb, 19, none⟩ (.slice (some ⟨L, 0, none⟩) 0 capL)).setCell ⟨tb, 20, none⟩ (.slice aw 0 cap)) G (.slice (some ⟨L, 0, none⟩) 0 capL) 0 c0 := hl0.stable hu0 (fun _ h => h) fun k cur t' hk hc => by
      subst hk
      have := cells_type hb hc
      subst this
      exact ⟨by decide, by decide⟩
    obtain ⟨Q, HQ, HC⟩ := callsVar (tw_addLine0 hs (TwAt.next hs hI hFt hGt hGF hfg (heap_lt hb) hu hGW (aw := aw) (cap := cap) hbW hrW hvW hlW))
    have HU := Lib.hid hu
    clear hb hr hr0 hvb hI hFt hGt hGF hGl hfg hu0 hu hbW hrW hvW hGW hl hl0 hlW
    go_enter Tryz.func83, Tryz.ntmps83
    go_wp2_with (go_at_call 146; refine HC.out.mono ?_)
    rintro e w1 hq
    obtain ⟨rfl, hP⟩ := HQ.out e w1 hq
    clear hq
    have HP := Lib.hid hP; clear hP
    go_wp2
    go_end0
    exact ⟨rfl, G, HP.out.1, fun k hk => .inl hk, HU.out.trans HP.out.2⟩
end Go.Proofs.YtmopcbjmeepinaaGreatFmtRRR
