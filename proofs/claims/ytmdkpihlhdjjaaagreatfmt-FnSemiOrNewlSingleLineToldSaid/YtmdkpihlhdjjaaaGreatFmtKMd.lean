/-
  tabwriter.Writer: format, without columns; reset.
  tabwriter.Writer: reset, from whatever state.
  tabwriter.Writer: flushNoDefers.
  tabwriter.Writer: Flush; what a call with handlePanic deferred leaves.
-/
import Derived.Test.YtmdkpihlhdjjaaaGreatFmtKTwG
import Derived.Test.YtmdkpihlhdjjaaaGreatFmtKMc
import Derived.Test.YtmdkpihlhdjjaaaGreatFmtKTwCX
import Derived.Defers
import Derived.Recover
import Derived.Lib.ByteType
import Derived.Shelf.Abstract
namespace Go.Proofs.YtmdkpihlhdjjaaaGreatFmt
open Go.RowKit

set_option maxRecDepth 100000 in
set_option maxHeartbeats 4000000 in
/-- format where no line has two cells: writeLines of all lines. -/
theorem tw_format {S : Sink} {tb : Nat} {w : World} {G Fs : Nat → Prop} {inner t : List UInt8} {twd fg pos cs : Nat} {cw : Int} {ht : Bool} {nl : Nat} {c0 : List TCell} {R : World → Prop} {p : Int}
    (h : TwAt S tb w G Fs inner t twd fg pos cs cw ht nl c0) (hc : c0.length ≤ 1) (hnl : nl = 1 ∨ nl = 2)
    (hwl : Calls Tryz.prog 188 #[.pointer (some ⟨tb, 0, none⟩), .int .i64 0, .int .i64 0, .int .i64 (nl : Int)] w fun e w' => e = .returned (.int .i64 p) ∧ R w') :
    Calls Tryz.prog 177 #[.pointer (some ⟨tb, 0, none⟩), .int .i64 0, .int .i64 0, .int .i64 (nl : Int)] w fun e w' => e = .returned (.int .i64 p) ∧ R w' := by
  obtain ⟨vb, vl, aw, cap, hb, hr, hvb, ⟨L, capL, cur, v0, rfl, hL, hcs, hnc, hc1, hcm, hGL, h0, ho0, hG0, hrest, h1⟩, hI, hFt, hGt, hGF, hGl, hfg⟩ := h
  obtain ⟨a0, p0, rfl⟩ : ∃ ao c, v0 = .slice ao c0.length c := by
    rcases ho0.2 with ⟨h1, h2⟩ | ⟨g, cap, cur, h1, _, _, h2, _⟩
    · exact ⟨none, 0, by rw [h2]; exact h1⟩
    · exact ⟨_, _, h1⟩
  have c19 : w.cell? ⟨tb, 19, none⟩ = some (.slice (some ⟨L, 0, none⟩) nl capL) := cell_at hb 19
  have c20 : w.cell? ⟨tb, 20, none⟩ = some (.slice aw 0 cap) := cell_at hb 20
  have hlines : ∀ j, j < nl → ∃ ao n c, w.cell? ⟨L, j, none⟩ = some (.slice ao n c) ∧ (n = 0 ∨ n = 1) := fun j hj => by
    by_cases hj0 : j = 0
    · subst hj0
      exact ⟨a0, c0.length, p0, by rw [cell_at hL]; exact h0, by omega⟩
    · obtain rfl : j = 1 := by omega
      obtain ⟨a1, p1, hv1⟩ := h1 (by omega)
      exact ⟨a1, 0, p1, by rw [cell_at hL]; exact hv1, .inl rfl⟩
  have HLines := Lib.hid hlines
  have hnI : (nl : Int) ≤ 2 := by omega
  have HN := Lib.hid hnl
  have HWL := Lib.hid hwl
  clear hlines hwl hb hr hvb hL hcs hnc hc1 hcm hGL h0 ho0 hG0 hrest h1 hI hFt hGt hGF hGl hfg hc hnl
  go_enter Tryz.func177, Tryz.ntmps177
  go_wp2_with fail
  go_loopg [2, 8, 10] nl (fun k v2 v8 v10 wr => ∃ j : Nat, v2 = .int .i64 0 ∧ v8 = .int .i64 0 ∧ v10 = .int .i64 (j : Int) ∧ j + k = nl ∧ w = wr)
  case atStart => exact ⟨0, rfl, rfl, rfl, by omega, rfl⟩
  case round =>
    obtain ⟨j, rfl, rfl, rfl, hjk, rfl⟩ := hrel
    have HJ := Lib.hid hjk; clear hjk
    by_cases hlt : j < nl
    · obtain ⟨ao, n, c, cLj, hn⟩ := HLines.out j hlt
      have hltI : (j : Int) < (nl : Int) := by omega
      rcases hn with rfl | rfl
      · go_wp2_with fail
        go_roundg (nl - (j + 1))
        case measure => have := HJ.out; omega
        case rel => exact ⟨j + 1, rfl, rfl, by go_num, by omega, rfl⟩
      · go_wp2_with fail
        go_roundg (nl - (j + 1))
        case measure => have := HJ.out; omega
        case rel => exact ⟨j + 1, rfl, rfl, by go_num, by omega, rfl⟩
    · have hltI : ¬ (j : Int) < (nl : Int) := by omega
      go_wp2_with (go_at_call 188; refine HWL.out.mono ?_; rintro e w2 ⟨rfl, hR⟩; have HR := Lib.hid hR; clear hR)
      go_ret
      exact ⟨rfl, HR.out⟩
end Go.Proofs.YtmdkpihlhdjjaaaGreatFmt

namespace Go.Proofs.YtmdkpihlhdjjaaaGreatFmt
open Go.RowKit

/-- The Writer's state as reset may find it: the text, the lines and the cell are whatever they are. -/
def TwPre (S : Sink) (tb : Nat) (w : World) (G Fs : Nat → Prop) (inner : List UInt8) (twd fg : Nat) : Prop :=
  ∃ vb t pos cs cw ht vl aw cap, w.heap[tb]? = some (.cells (twCells S twd fg vb pos cs cw ht vl (.slice aw 0 cap)) 82 (0, 0)) ∧ Row w vb t ∧ (∀ k, vb.ownBlock = some k → G k) ∧ (vl = .slice none 0 0 ∨ ∃ nl c0, TwLines w G vl nl c0) ∧
    S.I w Fs inner ∧ ¬ Fs tb ∧ ¬ G tb ∧ (∀ k, G k → ¬ Fs k) ∧ (∀ k, G k → k < w.heap.size) ∧ (fg = 10 ∨ fg = 26)

theorem TwAt.pre {S : Sink} {tb : Nat} {w : World} {G Fs : Nat → Prop} {inner t : List UInt8} {twd fg pos cs : Nat} {cw : Int} {ht : Bool} {nl : Nat} {c0 : List TCell} (h : TwAt S tb w G Fs inner t twd fg pos cs cw ht nl c0) : TwPre S tb w G Fs inner twd fg := by
  obtain ⟨vb, vl, aw, cap, hb, hr, hvb, hl, h⟩ := h
  exact ⟨vb, t, pos, cs, cw, ht, vl, aw, cap, hb, hr, hvb, .inr ⟨nl, c0, hl⟩, h⟩

theorem row_trunc {w : World} {vb : Value} {t : List UInt8} (h : Row w vb t) : ∃ ao c, vb = .slice ao t.length c ∧ Row w (.slice ao 0 c) [] := by
  obtain ⟨ao, c, rfl⟩ := h.form
  exact ⟨ao, c, rfl, own_trunc h⟩

theorem TwLines.trunc {w : World} {G : Nat → Prop} {vl : Value} {nl : Nat} {c0 : List TCell} (h : TwLines w G vl nl c0) : ∃ L cap, vl = .slice (some ⟨L, 0, none⟩) nl cap ∧ nl ≤ cap ∧ TwLines w G (.slice (some ⟨L, 0, none⟩) 0 cap) 0 c0 := by
  obtain ⟨L, capL, cur, v0, rfl, hL, hcs, hnc, hc1, hcm, hGL, h0, ho0, hG0, hrest, h1⟩ := h
  exact ⟨L, capL, rfl, hnc, L, capL, cur, v0, rfl, hL, hcs, Nat.zero_le _, hc1, hcm, hGL, h0, ho0, hG0, hrest, fun h => absurd h (by omega)⟩

set_option maxRecDepth 100000 in
set_option maxHeartbeats 4000000 in
/-- addLine(true) where there is no row of lines yet. -/
theorem tw_addLineN {S : Sink} (hs : S.Law Tryz.prog 561) {tb : Nat} {w : World} {G Fs : Nat → Prop} {inner t : List UInt8} {twd fg pos cs : Nat} {cw : Int} {ht : Bool} {vb : Value} {aw : Option Addr} {cap : Nat}
    (hb : w.heap[tb]? = some (.cells (twCells S twd fg vb pos cs cw ht (.slice none 0 0) (.slice aw 0 cap)) 82 (0, 0))) (hr : Row w vb t) (hvb : ∀ k, vb.ownBlock = some k → G k)
    (hI : S.I w Fs inner) (hFt : ¬ Fs tb) (hGt : ¬ G tb) (hGF : ∀ k, G k → ¬ Fs k) (hGl : ∀ k, G k → k < w.heap.size) (hfg : fg = 10 ∨ fg = 26) :
    Calls Tryz.prog 128 #[.pointer (some ⟨tb, 0, none⟩), .bool true] w fun e w' => e = .returned (.tuple #[]) ∧ ∃ G', TwAt S tb w' G' Fs inner t twd fg pos cs cw ht 1 [] ∧ (∀ k, G' k → G k ∨ w.heap.size ≤ k) ∧ Upd (fun k => k = tb ∨ G k) w w' := by
  have c19 : w.cell? ⟨tb, 19, none⟩ = some (.slice none 0 0) := cell_at hb 19
  have f19 : w.frozen? ⟨tb, 19, none⟩ = false := frozen_at hb 19
  obtain ⟨i, hi, hz, hsz, hby⟩ : ∃ i, Tryz.prog.info? 337 = some i ∧ i.zero = some (.slice none 0 0) ∧ i.size = 1 ∧ i.bytes = 24 := ⟨_, rfl, rfl, rfl, rfl⟩
  have hA : Upd (fun _ => False) w (w.alloc (.cells #[.slice none 0 0] 337)) := (Upd.refl _ w).alloc _
  have hNew : (w.alloc (.cells #[.slice none 0 0] 337)).heap[w.heap.size]? = some (.cells #[.slice none 0 0] 337 (0, 0)) := heap_alloc_new w _
  have hgr := run_append_nil (P := Tryz.prog) (w.alloc (.cells #[.slice none 0 0] 337)) 79 79 337 i (.slice none 0 0) Tryz.underlying79 hi hz
    ⟨w.heap.size, 0, none⟩ 1 1 [.slice none 0 0] (by rw [hsz]; rfl)
    (fun j u hj => by rw [Addr.add_lit, cell_at hNew, Nat.zero_add]; simpa using hj) (by decide) (by decide) (by rw [hby]; decide)
  generalize hcap : grownCap (w.alloc (.cells #[.slice none 0 0] 337)) 1 0 337 = cap2 at hgr
  have hge : 1 ≤ cap2 := by rw [← hcap]; exact grownCap_ge _ _ _ _
  have hle : cap2 ≤ maxLen := by rw [← hcap]; exact grownCap_le_maxLen _ _ _ _ (by decide)
  obtain ⟨w1, N, cur2, hr1, hN1, hNge, hU1, hcs2, h20, h2r⟩ : ∃ (w1 : World) (N : Nat) (cur2 : Array Value), (Builtin.append_ #[79, 79] 79 #[.slice none 0 0, .slice (some ⟨w.heap.size, 0, none⟩) 1 1]).run Tryz.prog (w.alloc (.cells #[.slice none 0 0] 337)) = .ok (.slice (some ⟨N, 0, none⟩) 1 cap2) w1 ∧
      w1.heap[N]? = some (.cells cur2 337 (0, 0)) ∧ w.heap.size ≤ N ∧ Upd (fun _ => False) w w1 ∧ cur2.size = cap2 ∧ cur2[0]? = some (.slice none 0 0) ∧ (∀ j v, 1 ≤ j → cur2[j]? = some v → v = .slice none 0 0) := by
    refine ⟨_, _, _, hgr, heap_alloc_new _ _, by simp, (hA.drew).alloc _, ?_, by rw [Array.getElem?_append_left (by simp)]; rfl, fun j v hj hv => ?_⟩
    · simp [size_zeroCells, Value.cells]; omega
    · rw [Array.getElem?_append_right (by simpa using hj)] at hv
      exact mem_zeroCells (x := .slice none 0 0) hv
  clear hgr hcap hNew hA hi hz hsz hby
  have htN : ¬ tb = N := fun e => by have := heap_lt hb; omega
  have hNt : ¬ N = tb := fun e => htN e.symm
  have hb1 := hU1.heap hb fun h => h
  have c191 : w1.cell? ⟨tb, 19, none⟩ = some (.slice none 0 0) := cell_at hb1 19
  have f191 : w1.frozen? ⟨tb, 19, none⟩ = false := frozen_at hb1 19
  have hend : ∃ G', TwAt S tb (w1.setCell ⟨tb, 19, none⟩ (.slice (some ⟨N, 0, none⟩) 1 cap2)) G' Fs inner t twd fg pos cs cw ht 1 [] ∧ (∀ k, G' k → G k ∨ w.heap.size ≤ k) ∧ Upd (fun k => k = tb ∨ G k) w (w1.setCell ⟨tb, 19, none⟩ (.slice (some ⟨N, 0, none⟩) 1 cap2)) := by
    have hu0 : Upd (fun k => k = tb) w (w1.setCell ⟨tb, 19, none⟩ (.slice (some ⟨N, 0, none⟩) 1 cap2)) := Upd.setCell (F := fun k => k = tb) (hU1.mono fun _ h => h.elim) (p := ⟨tb, 19, none⟩) (.inl rfl) _
    have hu := hu0.mono (G := fun k => k = tb ∨ G k) fun k hk => .inl hk
    have hNW : (w1.setCell ⟨tb, 19, none⟩ (.slice (some ⟨N, 0, none⟩) 1 cap2)).heap[N]? = some (.cells cur2 337 (0, 0)) := (Below.heap_setCell _ _ _ _ hNt).trans hN1
    refine ⟨fun k => G k ∨ k = N, TwAt.next hs hI hFt hGt hGF hfg (heap_lt hb) hu (fun k hk => ?_) (aw := aw) (cap := cap) (vb := vb) ?_ (hr.stable hu0 fun k hk e => hGt (e ▸ hvb k hk)) (fun k hk => .inl (hvb k hk))
      ⟨N, cap2, cur2, _, rfl, hNW, hcs2, hge, hge, hle, .inr rfl, h20, World.ownsRow_nil _ _ _ _, fun k hk => absurd hk (by simp [Value.ownBlock]), fun j v hj hv => ⟨none, 0, 0, h2r j v hj hv, Nat.le_refl _, by decide⟩, fun h => absurd h (by omega)⟩, fun k hk => ?_, hu⟩
    · rcases hk with hk | rfl
      · exact ⟨.inl hk, Nat.lt_of_lt_of_le (hGl k hk) hu.size⟩
      · exact ⟨.inr hNge, heap_lt hNW⟩
    · refine (heap_setCell_at _ hb1).trans ?_
      simp [twCells]
    · rcases hk with hk | rfl
      · exact .inl hk
      · exact .inr hNge
  have HEnd := Lib.hid hend
  have HR1 := Lib.hid hr1
  clear hend hr1 hb1 hU1 hN1 hb hr hvb hI hFt hGt hGF hGl hfg hcs2 h20 h2r hge hle
  go_enter Tryz.func128, Tryz.ntmps128
  go_wp2_with (at_builtin; refine wpList_append_run rfl _ _ _ rfl rfl rfl HR1.out ?_)
  go_end0
  exact ⟨rfl, HEnd.out⟩

/-- What reset leaves. -/
def TwFresh (S : Sink) (tb : Nat) (G Fs : Nat → Prop) (inner : List UInt8) (twd fg : Nat) (w w' : World) : Prop :=
  ∃ G', TwAt S tb w' G' Fs inner [] twd fg 0 0 0 false 1 [] ∧ (∀ k, G' k → G k ∨ w.heap.size ≤ k) ∧ Upd (fun k => k = tb ∨ G k) w w'

set_option maxRecDepth 100000 in
set_option maxHeartbeats 4000000 in
theorem tw_reset {S : Sink} (hs : S.Law Tryz.prog 561) {tb : Nat} {w : World} {G Fs : Nat → Prop} {inner : List UInt8} {twd fg : Nat} (h : TwPre S tb w G Fs inner twd fg) :
    Calls Tryz.prog 62 #[.pointer (some ⟨tb, 0, none⟩)] w fun e w' => e = .returned (.tuple #[]) ∧ TwFresh S tb G Fs inner twd fg w w' := by
  obtain ⟨vb, t, pos, cs, cw, ht, vl, aw, cap, hb, hr, hvb, hl, hI, hFt, hGt, hGF, hGl, hfg⟩ := h
  obtain ⟨vo, vc, rfl, hr0⟩ := row_trunc hr
  have c13 : w.cell? ⟨tb, 13, none⟩ = some (.slice vo t.length vc) := cell_at hb 13
  have c14 : w.cell? ⟨tb, 14, none⟩ = some (.int .i64 (pos : Int)) := cell_at hb 14
  have c15 : w.cell? ⟨tb, 15, none⟩ = some (.int .i64 (cs : Int)) := cell_at hb 15
  have c16 : w.cell? ⟨tb, 16, none⟩ = some (.int .i64 cw) := cell_at hb 16
  have c17 : w.cell? ⟨tb, 17, none⟩ = some (.bool ht) := cell_at hb 17
  have c18 : w.cell? ⟨tb, 18, none⟩ = some (.int .u8 0) := cell_at hb 18
  have c19 : w.cell? ⟨tb, 19, none⟩ = some vl := cell_at hb 19
  have c20 : w.cell? ⟨tb, 20, none⟩ = some (.slice aw 0 cap) := cell_at hb 20
  have f13 : w.frozen? ⟨tb, 13, none⟩ = false := frozen_at hb 13
  have f14 : w.frozen? ⟨tb, 14, none⟩ = false := frozen_at hb 14
  have f15 : w.frozen? ⟨tb, 15, none⟩ = false := frozen_at hb 15
  have f16 : w.frozen? ⟨tb, 16, none⟩ = false := frozen_at hb 16
  have f17 : w.frozen? ⟨tb, 17, none⟩ = false := frozen_at hb 17
  have f18 : w.frozen? ⟨tb, 18, none⟩ = false := frozen_at hb 18
  have f19 : w.frozen? ⟨tb, 19, none⟩ = false := frozen_at hb 19
  have f20 : w.frozen? ⟨tb, 20, none⟩ = false := frozen_at hb 20
  rcases hl with rfl | ⟨nl, c0, hl⟩
  · have hu0 : Upd (fun k => k = tb) w ((((((((w.setCell ⟨tb, 13, none⟩ (.slice vo 0 vc)).setCell ⟨tb, 14, none⟩ (.int .i64 0)).setCell ⟨tb, 15, none⟩ (.int .i64 0)).setCell ⟨tb, 16, none⟩ (.int .i64 0)).setCell ⟨tb, 17, none⟩ (.bool false)).setCell ⟨tb, 18, none⟩ (.int .u8 0)).setCell ⟨tb, 19, none⟩ (.slice none 0 0)).setCell ⟨tb, 20, none⟩ (.slice aw 0 cap)) :=
      Upd.setCell (F := fun k => k = tb) (Upd.setCell (F := fun k => k = tb) (Upd.setCell (F := fun k => k = tb) (Upd.setCell (F := fun k => k = tb) (Upd.setCell (F := fun k => k = tb) (Upd.setCell (F := fun k => k = tb) (Upd.setCell (F := fun k => k = tb) (Upd.setCell (F := fun k => k = tb) (Upd.refl _ w)
        (p := ⟨tb, 13, none⟩) (.inl rfl) _) (p := ⟨tb, 14, none⟩) (.inl rfl) _) (p := ⟨tb, 15, none⟩) (.inl rfl) _) (p := ⟨tb, 16, none⟩) (.inl rfl) _) (p := ⟨tb, 17, none⟩) (.inl rfl) _) (p := ⟨tb, 18, none⟩) (.inl rfl) _) (p := ⟨tb, 19, none⟩) (.inl rfl) _) (p := ⟨tb, 20, none⟩) (.inl rfl) _
    have hu : Upd (fun k => k = tb ∨ G k) w ((((((((w.setCell ⟨tb, 13, none⟩ (.slice vo 0 vc)).setCell ⟨tb, 14, none⟩ (.int .i64 0)).setCell ⟨tb, 15, none⟩ (.int .i64 0)).setCell ⟨tb, 16, none⟩ (.int .i64 0)).setCell ⟨tb, 17, none⟩ (.bool false)).setCell ⟨tb, 18, none⟩ (.int .u8 0)).setCell ⟨tb, 19, none⟩ (.slice none 0 0)).setCell ⟨tb, 20, none⟩ (.slice aw 0 cap)) := hu0.mono fun k hk => .inl hk
    have hbW : ((((((((w.setCell ⟨tb, 13, none⟩ (.slice vo 0 vc)).setCell ⟨tb, 14, none⟩ (.int .i64 0)).setCell ⟨tb, 15, none⟩ (.int .i64 0)).setCell ⟨tb, 16, none⟩ (.int .i64 0)).setCell ⟨tb, 17, none⟩ (.bool false)).setCell ⟨tb, 18, none⟩ (.int .u8 0)).setCell ⟨tb, 19, none⟩ (.slice none 0 0)).setCell ⟨tb, 20, none⟩ (.slice aw 0 cap)).heap[tb]? = some (.cells (twCells S twd fg (.slice vo 0 vc) 0 0 0 false (.slice none 0 0) (.slice aw 0 cap)) 82 (0, 0)) := by
      refine (heap_setCell_at _ (heap_setCell_at _ (heap_setCell_at _ (heap_setCell_at _ (heap_setCell_at _ (heap_setCell_at _ (heap_setCell_at _ (heap_setCell_at _ hb)))))))).trans ?_
      simp [twCells]
    have hrW : Row ((((((((w.setCell ⟨tb, 13, none⟩ (.slice vo 0 vc)).setCell ⟨tb, 14, none⟩ (.int .i64 0)).setCell ⟨tb, 15, none⟩ (.int .i64 0)).setCell ⟨tb, 16, none⟩ (.int .i64 0)).setCell ⟨tb, 17, none⟩ (.bool false)).setCell ⟨tb, 18, none⟩ (.int .u8 0)).setCell ⟨tb, 19, none⟩ (.slice none 0 0)).setCell ⟨tb, 20, none⟩ (.slice aw 0 cap)) (.slice vo 0 vc) [] := hr0.stable hu0 fun k hk e => hGt (e ▸ hvb k (own_same hk))
    have hvW : ∀ k, (Value.slice vo 0 vc).ownBlock = some k → G k := fun k hk => hvb k (own_same hk)
    have hGW : ∀ k, G k → (G k ∨ w.heap.size ≤ k) ∧ k < ((((((((w.setCell ⟨tb, 13, none⟩ (.slice vo 0 vc)).setCell ⟨tb, 14, none⟩ (.int .i64 0)).setCell ⟨tb, 15, none⟩ (.int .i64 0)).setCell ⟨tb, 16, none⟩ (.int .i64 0)).setCell ⟨tb, 17, none⟩ (.bool false)).setCell ⟨tb, 18, none⟩ (.int .u8 0)).setCell ⟨tb, 19, none⟩ (.slice none 0 0)).setCell ⟨tb, 20, none⟩ (.slice aw 0 cap)).heap.size := fun k hk => ⟨.inl hk, Nat.lt_of_lt_of_le (hGl k hk) hu.size⟩
    obtain ⟨Q, HQ, HC⟩ := callsVar (tw_addLineN hs hbW hrW hvW (hs.stable hI hu0 fun k hk e => hFt (e ▸ hk)) hFt hGt hGF (fun k hk => (hGW k hk).2) hfg)
    have HU := Lib.hid hu
    clear hb hr hr0 hvb hI hFt hGt hGF hGl hfg hu0 hu hbW hrW hvW hGW
    go_enter Tryz.func62, Tryz.ntmps62
    go_wp2_with (go_at_call 128; refine HC.out.mono ?_)
    rintro e w1 hq
    obtain ⟨rfl, hP⟩ := HQ.out e w1 hq
    clear hq
    have HP := Lib.hid hP; clear hP
    go_wp2
    go_end0
    refine ⟨rfl, ?_⟩
    obtain ⟨G', h1, h2, h3⟩ := HP.out
    exact ⟨G', h1, fun k hk => (h2 k hk).imp id fun h => Nat.le_trans HU.out.size h, HU.out.trans h3⟩
  · obtain ⟨L, capL, rfl, hnl, hl0⟩ := hl.trunc
    have hnlI : (nl : Int) ≤ (capL : Int) := by omega
    have hu0 : Upd (fun k => k = tb) w ((((((((w.setCell ⟨tb, 13, none⟩ (.slice vo 0 vc)).setCell ⟨tb, 14, none⟩ (.int .i64 0)).setCell ⟨tb, 15, none⟩ (.int .i64 0)).setCell ⟨tb, 16, none⟩ (.int .i64 0)).setCell ⟨tb, 17, none⟩ (.bool false)).setCell ⟨tb, 18, none⟩ (.int .u8 0)).setCell ⟨tb, 19, none⟩ (.slice (some ⟨L, 0, none⟩) 0 capL)).setCell ⟨tb, 20, none⟩ (.slice aw 0 cap)) :=
      Upd.setCell (F := fun k => k = tb) (Upd.setCell (F := fun k => k = tb) (Upd.setCell (F := fun k => k = tb) (Upd.setCell (F := fun k => k = tb) (Upd.setCell (F := fun k => k = tb) (Upd.setCell (F := fun k => k = tb) (Upd.setCell (F := fun k => k = tb) (Upd.setCell (F := fun k => k = tb) (Upd.refl _ w)
        (p := ⟨tb, 13, none⟩) (.inl rfl) _) (p := ⟨tb, 14, none⟩) (.inl rfl) _) (p := ⟨tb, 15, none⟩) (.inl rfl) _) (p := ⟨tb, 16, none⟩) (.inl rfl) _) (p := ⟨tb, 17, none⟩) (.inl rfl) _) (p := ⟨tb, 18, none⟩) (.inl rfl) _) (p := ⟨tb, 19, none⟩) (.inl rfl) _) (p := ⟨tb, 20, none⟩) (.inl rfl) _
    have hu : Upd (fun k => k = tb ∨ G k) w ((((((((w.setCell ⟨tb, 13, none⟩ (.slice vo 0 vc)).setCell ⟨tb, 14, none⟩ (.int .i64 0)).setCell ⟨tb, 15, none⟩ (.int .i64 0)).setCell ⟨tb, 16, none⟩ (.int .i64 0)).setCell ⟨tb, 17, none⟩ (.bool false)).setCell ⟨tb, 18, none⟩ (.int .u8 0)).setCell ⟨tb, 19, none⟩ (.slice (some ⟨L, 0, none⟩) 0 capL)).setCell ⟨tb, 20, none⟩ (.slice aw 0 cap)) := hu0.mono fun k hk => .inl hk
    have hbW : ((((((((w.setCell ⟨tb, 13, none⟩ (.slice vo 0 vc)).setCell ⟨tb, 14, none⟩ (.int .i64 0)).setCell ⟨tb, 15, none⟩ (.int .i64 0)).setCell ⟨tb, 16, none⟩ (.int .i64 0)).setCell ⟨tb, 17, none⟩ (.bool false)).setCell ⟨tb, 18, none⟩ (.int .u8 0)).setCell ⟨tb, 19, none⟩ (.slice (some ⟨L, 0, none⟩) 0 capL)).setCell ⟨tb, 20, none⟩ (.slice aw 0 cap)).heap[tb]? = some (.cells (twCells S twd fg (.slice vo 0 vc) 0 0 0 false (.slice (some ⟨L, 0, none⟩) 0 capL) (.slice aw 0 cap)) 82 (0, 0)) := by
      refine (heap_setCell_at _ (heap_setCell_at _ (heap_setCell_at _ (heap_setCell_at _ (heap_setCell_at _ (heap_setCell_at _ (heap_setCell_at _ (heap_setCell_at _ hb)))))))).trans ?_
      simp [twCells]
    have hrW : Row ((((((((w.setCell ⟨tb, 13, none⟩ (.slice vo 0 vc)).setCell ⟨tb, 14, none⟩ (.int .i64 0)).setCell ⟨tb, 15, none⟩ (.int .i64 0)).setCell ⟨tb, 16, none⟩ (.int .i64 0)).setCell ⟨tb, 17, none⟩ (.bool false)).setCell ⟨tb, 18, none⟩ (.int .u8 0)).setCell ⟨tb, 19, none⟩ (.slice (some ⟨L, 0, none⟩) 0 capL)).setCell ⟨tb, 20, none⟩ (.slice aw 0 cap)) (.slice vo 0 vc) [] := hr0.stable hu0 fun k hk e => hGt (e ▸ hvb k (own_same hk))
    have hvW : ∀ k, (Value.slice vo 0 vc).ownBlock = some k → G k := fun k hk => hvb k (own_same hk)
    have hGW : ∀ k, G k → (G k ∨ w.heap.size ≤ k) ∧ k < ((((((((w.setCell ⟨tb, 13, none⟩ (.slice vo 0 vc)).setCell ⟨tb, 14, none⟩ (.int .i64 0)).setCell ⟨tb, 15, none⟩ (.int .i64 0)).setCell ⟨tb, 16, none⟩ (.int .i64 0)).setCell ⟨tb, 17, none⟩ (.bool false)).setCell ⟨tb, 18, none⟩ (.int .u8 0)).setCell ⟨tb, 19, none⟩ (.slice (some ⟨L, 0, none⟩) 0 capL)).setCell ⟨tb, 20, none⟩ (.slice aw 0 cap)).heap.size := fun k hk => ⟨.inl hk, Nat.lt_of_lt_of_le (hGl k hk) hu.size⟩
    have hlW : TwLines ((((((((w.setCell ⟨tb, 13, none⟩ (.slice vo 0 vc)).setCell ⟨tb, 14, none⟩ (.int .i64 0)).setCell ⟨tb, 15, none⟩ (.int .i64 0)).setCell ⟨tb, 16, none⟩ (.int .i64 0)).setCell ⟨tb, 17, none⟩ (.bool false)).setCell ⟨tb, 18, none⟩ (.int .u8 0)).setCell ⟨tb, 19, none⟩ (.slice (some ⟨L, 0, none⟩) 0 capL)).setCell ⟨tb, 20, none⟩ (.slice aw 0 cap)) G (.slice (some ⟨L, 0, none⟩) 0 capL) 0 c0 := hl0.stable hu0 (fun _ h => h) fun k cur t' hk hc => by
      subst hk
      have := cells_type hb hc
      subst this
      exact ⟨by decide, by decide⟩
    obtain ⟨Q, HQ, HC⟩ := callsVar (tw_addLine0 hs (TwAt.next hs hI hFt hGt hGF hfg (heap_lt hb) hu hGW (aw := aw) (cap := cap) hbW hrW hvW hlW))
    have HU := Lib.hid hu
    clear hb hr hr0 hvb hI hFt hGt hGF hGl hfg hu0 hu hbW hrW hvW hGW hl hl0 hlW
    go_enter Tryz.func62, Tryz.ntmps62
    go_wp2_with (go_at_call 128; refine HC.out.mono ?_)
    rintro e w1 hq
    obtain ⟨rfl, hP⟩ := HQ.out e w1 hq
    clear hq
    have HP := Lib.hid hP; clear hP
    go_wp2
    go_end0
    exact ⟨rfl, G, HP.out.1, fun k hk => .inl hk, HU.out.trans HP.out.2⟩
end Go.Proofs.YtmdkpihlhdjjaaaGreatFmt

namespace Go.Proofs.YtmdkpihlhdjjaaaGreatFmt
open Go.RowKit

/-- The Writer between two writes: t has been written since the last line feed. -/
def TwIdle (S : Sink) (tb : Nat) (w : World) (H : Nat → Prop) (inner t : List UInt8) (twd fg : Nat) : Prop :=
  ∃ G Fs, TwAt S tb w G Fs inner t twd fg 0 t.length 0 false 1 [] ∧ ∀ k, H k ↔ k = tb ∨ G k ∨ Fs k

/-- What a call leaves that writes out. -/
def TwDone (S : Sink) (tb : Nat) (H : Nat → Prop) (inner t : List UInt8) (twd fg : Nat) (w w' : World) : Prop :=
  ∃ H', TwIdle S tb w' H' inner t twd fg ∧ (∀ k, H' k → H k ∨ w.heap.size ≤ k) ∧ Upd H w w'

set_option maxRecDepth 100000 in
set_option maxHeartbeats 2000000 in
theorem tw_fnd {S : Sink} (hs : S.Law Tryz.prog 561) {tb : Nat} {w : World} {G Fs : Nat → Prop} {inner t out : List UInt8} {twd fg pos : Nat} {cw : Int} {ht : Bool} {nl : Nat} {c0 : List TCell} {p : Int}
    (h : TwAt S tb w G Fs inner t twd fg pos 0 cw ht nl c0) (hc : c0.length ≤ 1) (hnl : nl = 1 ∨ nl = 2)
    (hwl : Calls Tryz.prog 188 #[.pointer (some ⟨tb, 0, none⟩), .int .i64 0, .int .i64 0, .int .i64 (nl : Int)] w fun e w' => e = .returned (.int .i64 p) ∧ WInv S Fs w inner out w') :
    Calls Tryz.prog 158 #[.pointer (some ⟨tb, 0, none⟩)] w fun e w' => e = .returned (.tuple #[]) ∧ TwDone S tb (fun k => k = tb ∨ G k ∨ Fs k) (inner ++ out) [] twd fg w w' := by
  have h' := h
  obtain ⟨vb, vl, aw, cap, hb, hr, hvb, ⟨L, capL, cur, v0, rfl, hL, _⟩, hI, hFt, hGt, hGF, hGl, hfg⟩ := h
  have c15 : w.cell? ⟨tb, 15, none⟩ = some (.int .i64 0) := cell_at hb 15
  have c19 : w.cell? ⟨tb, 19, none⟩ = some (.slice (some ⟨L, 0, none⟩) nl capL) := cell_at hb 19
  obtain ⟨Q, HQ, HC⟩ := callsVar (tw_format h' hc hnl hwl)
  have HA := Lib.hid h'
  clear hb hr hvb hL hI hFt hGt hGF hGl hfg h' hwl hc hnl
  go_enter Tryz.func158, Tryz.ntmps158
  go_wp2_with (go_at_call 177; refine HC.out.mono ?_)
  rintro e w1 hq
  obtain ⟨rfl, F1, hI1, hF1, hU1⟩ := HQ.out e w1 hq
  clear hq
  obtain ⟨Q2, HQ2, HC2⟩ := callsVar (tw_reset hs (HA.out.wrote hs hI1 hF1 hU1).pre)
  have HF1 := Lib.hid hF1
  have HU1 := Lib.hid hU1
  clear hI1 hF1 hU1
  go_wp2_with (go_at_call 62; refine HC2.out.mono ?_)
  rintro e w2 hq
  obtain ⟨rfl, G2, hA2, hG2, hU2⟩ := HQ2.out e w2 hq
  clear hq
  have HEnd : RowKit.Hid (TwDone S tb (fun k => k = tb ∨ G k ∨ Fs k) (inner ++ out) [] twd fg w w2) := by
    refine ⟨fun k => k = tb ∨ G2 k ∨ F1 k, ⟨G2, F1, hA2, fun k => Iff.rfl⟩, fun k hk => ?_, (HU1.out.mono fun k hk => .inr (.inr hk)).trans (hU2.mono fun k hk => hk.imp id .inl)⟩
    rcases hk with hk | hk | hk
    · exact .inl (.inl hk)
    · rcases hG2 k hk with h | h
      · exact .inl (.inr (.inl h))
      · exact .inr (Nat.le_trans HU1.out.size h)
    · rcases HF1.out k hk with h | h
      · exact .inl (.inr (.inr h))
      · exact .inr h
  clear hA2 hG2 hU2
  go_wp2
  go_end0
  exact ⟨rfl, HEnd.out⟩
end Go.Proofs.YtmdkpihlhdjjaaaGreatFmt

namespace Go.Proofs.YtmdkpihlhdjjaaaGreatFmt
open Go.RowKit

set_option maxRecDepth 100000 in
set_option maxHeartbeats 2000000 in
/-- handlePanic where nothing panics. -/
theorem tw_handlePanic (a b c : Value) (w : World) :
    CallsD Tryz.prog 157 #[a, b, c] .returning w fun e u' w' => e = .returned (.tuple #[]) ∧ u' = .returning ∧ w' = w := by
  have hnn : ∀ w, (binOp .neq 20 .nilIface .nilIface).run Tryz.prog w = .ok (.bool false) w := fun w => Lib.run_neq_nil_nil w Tryz.underlying20
  refine callsD_of_wpS Tryz.func157 rfl fun c₀ cs hu => ?_
  apply wpS_seq
  apply wpS_region
  simp [wpOpsS, go_sem, recoverD, hu, Tryz.ntmps157, Exit.thenS]
  apply wpS_seq
  apply wpS_region
  simp [wpOpsS, go_sem, recoverD, hu, hnn, Exit.thenS]
  refine wpS_cond (t := false) (by simp [Act.eval, Array.replicate]) ?_
  simp only [Bool.false_eq_true, if_false]
  refine wpS_of_wp (wp_skip ?_)
  cases c₀
  simp_all [bodyPostS, results]
theorem TwIdle.lt {P : Program} {fuel : Nat} {S : Sink} (hs : S.Law P fuel) {tb : Nat} {w : World} {H : Nat → Prop} {inner t : List UInt8} {twd fg : Nat} (h : TwIdle S tb w H inner t twd fg) : ∀ k, H k → k < w.heap.size := by
  obtain ⟨G, Fs, ⟨vb, vl, aw, cap, hb, hr, hvb, hl, hI, hFt, hGt, hGF, hGl, hfg⟩, hH⟩ := h
  intro k hk
  rcases (hH k).1 hk with rfl | h | h
  · exact heap_lt hb
  · exact hGl k h
  · exact hs.lt hI k h

theorem TwAt.stable {P : Program} {fuel : Nat} {S : Sink} (hs : S.Law P fuel) {tb : Nat} {w w' : World} {G Fs H : Nat → Prop} {inner t : List UInt8} {twd fg pos cs : Nat} {cw : Int} {ht : Bool} {nl : Nat} {c0 : List TCell}
    (h : TwAt S tb w G Fs inner t twd fg pos cs cw ht nl c0) (hu : Upd H w w') (hd : ∀ k, (k = tb ∨ G k ∨ Fs k) → ¬ H k) : TwAt S tb w' G Fs inner t twd fg pos cs cw ht nl c0 := by
  obtain ⟨vb, vl, aw, cap, hb, hr, hvb, ⟨L, capL, cur, v0, h1, hL, h3, h4, h5, h6, hGL, h8, ho0, hG0, h11⟩, hI, hFt, hGt, hGF, hGl, hfg⟩ := h
  exact ⟨vb, vl, aw, cap, hu.heap hb (hd tb (.inl rfl)), hr.stable hu fun k hk => hd k (.inr (.inl (hvb k hk))), hvb, ⟨L, capL, cur, v0, h1, hu.heap hL (hd L (.inr (.inl hGL))), h3, h4, h5, h6, hGL, h8, own_stable ho0 hu fun k hk => hd k (.inr (.inl (hG0 k hk))), hG0, h11⟩,
    hs.stable hI hu fun k hk => hd k (.inr (.inr hk)), hFt, hGt, hGF, fun k hk => Nat.lt_of_lt_of_le (hGl k hk) hu.size, hfg⟩

theorem TwIdle.stable {P : Program} {fuel : Nat} {S : Sink} (hs : S.Law P fuel) {tb : Nat} {w w' : World} {H K : Nat → Prop} {inner t : List UInt8} {twd fg : Nat} (h : TwIdle S tb w H inner t twd fg) (hu : Upd K w w') (hd : ∀ k, H k → ¬ K k) : TwIdle S tb w' H inner t twd fg := by
  obtain ⟨G, Fs, hA, hH⟩ := h
  exact ⟨G, Fs, hA.stable hs hu fun k hk => hd k ((hH k).2 hk), hH⟩

theorem TwDone.of {S : Sink} {tb : Nat} {H H1 : Nat → Prop} {inner t : List UInt8} {twd fg : Nat} {w w1 w2 : World} (h : TwDone S tb H1 inner t twd fg w1 w2) (hH : ∀ k, H1 k → H k ∨ w.heap.size ≤ k) (hu : Upd H w w1) : TwDone S tb H inner t twd fg w w2 := by
  obtain ⟨H', h1, h2, h3⟩ := h
  refine ⟨H', h1, fun k hk => ?_, hu.trans' h3 hH⟩
  rcases h2 k hk with h | h
  · exact hH k h
  · exact .inr (Nat.le_trans hu.size h)

set_option maxRecDepth 100000 in
set_option maxHeartbeats 2000000 in
/-- flushNoDefers where no text waits. -/
theorem tw_fnd_empty {S : Sink} (hs : S.Law Tryz.prog 561) (hok : ∀ c, S.okb c = true) {tb : Nat} {w : World} {H : Nat → Prop} {inner : List UInt8} {twd fg : Nat} (h : TwIdle S tb w H inner [] twd fg) (hl : inner.length ≤ LIM) :
    Calls Tryz.prog 158 #[.pointer (some ⟨tb, 0, none⟩)] w fun e w' => e = .returned (.tuple #[]) ∧ TwDone S tb H inner [] twd fg w w' := by
  obtain ⟨G, Fs, hA, hH⟩ := h
  have hf := tw_fnd hs hA (by simp) (.inl rfl) (tw_wl0 hs hok hA hl)
  rw [List.append_nil] at hf
  refine hf.mono ?_
  rintro e w' ⟨rfl, H', h1, h2, h3⟩
  exact ⟨rfl, H', h1, fun k hk => (h2 k hk).imp (hH k).2 id, h3.mono fun k hk => (hH k).2 hk⟩

set_option maxRecDepth 100000 in
set_option maxHeartbeats 4000000 in
/-- flush, over what flushNoDefers is known to leave. -/
theorem tw_flush {S : Sink} (hs : S.Law Tryz.prog 561) {tb : Nat} {w : World} {H : Nat → Prop} {inner t out : List UInt8} {twd fg : Nat} (h : TwIdle S tb w H inner t twd fg)
    (hfl : ∀ W, TwIdle S tb W H inner t twd fg → Calls Tryz.prog 158 #[.pointer (some ⟨tb, 0, none⟩)] W fun e w' => e = .returned (.tuple #[]) ∧ TwDone S tb H out [] twd fg W w') :
    Calls Tryz.prog 123 #[.pointer (some ⟨tb, 0, none⟩)] w fun e w' => e = .returned .nilIface ∧ TwDone S tb H out [] twd fg w w' := by
  have hA : Upd (fun _ => False) w (w.alloc (.cells #[.nilIface] 35)) := (Upd.refl _ w).alloc _
  have hNew : (w.alloc (.cells #[.nilIface] 35)).heap[w.heap.size]? = some (.cells #[.nilIface] 35 (0, 0)) := heap_alloc_new w _
  have hlt := h.lt hs
  have hnH : ¬ H w.heap.size := fun e => absurd (hlt _ e) (by omega)
  obtain ⟨Q, HQ, HC⟩ := callsVar (hfl _ (h.stable hs hA fun _ _ h => h))
  have HNew := Lib.hid hNew
  have HA := Lib.hid hA
  clear hfl h hA hNew
  go_enter_defers Tryz.func123, Tryz.ntmps123
  go_wp2_with (go_at_call 158; refine HC.out.mono ?_)
  rintro e w1 hq
  obtain ⟨rfl, H1, hI1, hH1, hU1⟩ := HQ.out e w1 hq
  clear hq
  have HN1 := Lib.hid (hU1.heap HNew.out hnH)
  have e0 : w1.cell? ⟨w.heap.size, 0, none⟩ = some .nilIface := cell_at HN1.out 0
  have ef : w1.frozen? ⟨w.heap.size, 0, none⟩ = false := frozen_at HN1.out 0
  have hn1 : ¬ H1 w.heap.size := fun e => by
    rcases hH1 _ e with h | h
    · exact hnH h
    · simp at h; omega
  have HI1 := Lib.hid hI1
  have HH1 := Lib.hid hH1
  have HU1 := Lib.hid hU1
  clear hI1 hH1 hU1
  go_wp2_with fail
  have hW : (w1.setCell ⟨w.heap.size, 0, none⟩ .nilIface).cell? ⟨w.heap.size, 0, none⟩ = some .nilIface := by rw [cell_at (heap_setCell_at _ HN1.out)]; rfl
  refine leaves_cons (f := 157) (args := #[.pointer (some ⟨tb, 0, none⟩), .pointer (some ⟨w.heap.size, 0, none⟩), .string ⟨#[70, 108, 117, 115, 104]⟩]) (by simp) (Go.Proofs.enters_of Tryz.func157 (by kernel_rfl) rfl _ _) ?_
  refine (tw_handlePanic _ _ _ _).mono ?_
  rintro e u' w'' ⟨rfl, rfl, rfl⟩
  refine ⟨.nilIface, ?_, rfl, ?_⟩
  · simp [results, go_sem, hW]
  · refine ⟨H1, HI1.out.stable hs ((Upd.refl (fun k => k = w.heap.size) w1).setCell (p := ⟨w.heap.size, 0, none⟩) (.inl rfl) _) (fun k hk e => hn1 (e ▸ hk)), fun k hk => ?_, ?_⟩
    · rcases HH1.out k hk with h | h
      · exact .inl h
      · exact .inr (Nat.le_trans HA.out.size h)
    · exact ((HA.out.mono fun _ h => h.elim).trans HU1.out).setCell (p := ⟨w.heap.size, 0, none⟩) (.inr (Nat.le_refl _)) _

set_option maxRecDepth 100000 in
set_option maxHeartbeats 4000000 in
/-- Flush. -/
theorem tw_Flush {S : Sink} (hs : S.Law Tryz.prog 561) {tb : Nat} {w : World} {H : Nat → Prop} {inner t out : List UInt8} {twd fg : Nat} (h : TwIdle S tb w H inner t twd fg)
    (hfl : ∀ W, TwIdle S tb W H inner t twd fg → Calls Tryz.prog 158 #[.pointer (some ⟨tb, 0, none⟩)] W fun e w' => e = .returned (.tuple #[]) ∧ TwDone S tb H out [] twd fg W w') :
    Calls Tryz.prog 48 #[.pointer (some ⟨tb, 0, none⟩)] w fun e w' => e = .returned .nilIface ∧ TwDone S tb H out [] twd fg w w' := by
  obtain ⟨Q, HQ, HC⟩ := callsVar (tw_flush hs h hfl)
  clear hfl h
  go_enter Tryz.func48, Tryz.ntmps48
  go_wp2_with (go_at_call 123; refine HC.out.mono ?_)
  rintro e w1 hq
  obtain ⟨rfl, h1⟩ := HQ.out e w1 hq
  clear hq
  have H1 := Lib.hid h1; clear h1
  go_wp2
  go_ret
  exact ⟨rfl, H1.out⟩
end Go.Proofs.YtmdkpihlhdjjaaaGreatFmt
