/-
  tabwriter.Writer: addLine.
-/
import Derived.Test.YtdfgcopelfmcmaaGreatFmtTwB
import Derived.Test.YtdfgcopelfmcmaaGreatFmtMa
namespace Go.Proofs.YtdfgcopelfmcmaaGreatFmt
open Go.RowKit

theorem own_same {ao : Option Addr} {n m c d : Nat} {k : Nat} (h : (Value.slice ao n c).ownBlock = some k) : (Value.slice ao m d).ownBlock = some k := by
  cases ao <;> exact h

theorem own_trunc {w : World} {B : Nat} {e : TypeId} {sz : Nat} {ao : Option Addr} {n m c : Nat} {xs : List Value} (h : w.ownsRow B e sz (.slice ao n c) m xs) : w.ownsRow B e sz (.slice ao 0 c) 0 [] := by
  refine ⟨by simp, ?_⟩
  rcases h.2 with ⟨h1, _⟩ | ⟨g, cap, cur, h1, h2, h3, h4, h5, h6, h7⟩
  · injection h1 with h1 h2 h3
    subst h1; subst h3
    exact .inl ⟨rfl, rfl⟩
  · injection h1 with h1 h2' h3'
    subst h1; subst h3'
    exact .inr ⟨g, c, cur, rfl, h2, h3, Nat.zero_le _, h5, h6, by simp⟩

set_option maxRecDepth 100000 in
set_option maxHeartbeats 2000000 in
/-- addLine(true) where no line is in use. -/
theorem tw_addLine0 {S : Sink} (hs : S.Law Tryz.prog 542) {tb : Nat} {w : World} {G Fs : Nat → Prop} {inner t : List UInt8} {twd fg pos cs : Nat} {cw : Int} {ht : Bool} {c0 : List TCell}
    (h : TwAt S tb w G Fs inner t twd fg pos cs cw ht 0 c0) :
    Calls Tryz.prog 127 #[.pointer (some ⟨tb, 0, none⟩), .bool true] w fun e w' => e = .returned (.tuple #[]) ∧ TwAt S tb w' G Fs inner t twd fg pos cs cw ht 1 [] ∧ Upd (fun k => k = tb ∨ G k) w w' := by
  obtain ⟨vb, vl, aw, cap, hb, hr, hvb, ⟨L, capL, cur, v0, rfl, hL, hcs, hnc, hc1, hcm, hGL, h0, ho0, hG0, hrest⟩, hI, hFt, hGt, hGF, hGl, hfg⟩ := h
  obtain ⟨a0, n0, p0, hv0, hle0⟩ : ∃ ao n c, v0 = .slice ao n c ∧ n ≤ c := by
    rcases ho0.2 with ⟨h1, h2⟩ | ⟨g, cap, cur, h1, _, _, h2, _⟩
    · exact ⟨none, 0, 0, h1, Nat.le_refl _⟩
    · exact ⟨_, _, _, h1, h2⟩
  subst hv0
  have htL : ¬ tb = L := fun e => hGt (e ▸ hGL)
  have hLt : ¬ L = tb := fun e => htL e.symm
  have c19 : w.cell? ⟨tb, 19, none⟩ = some (.slice (some ⟨L, 0, none⟩) 0 capL) := cell_at hb 19
  have f19 : w.frozen? ⟨tb, 19, none⟩ = false := frozen_at hb 19
  have cL0 : w.cell? ⟨L, 0, none⟩ = some (.slice a0 n0 p0) := by rw [cell_at hL]; exact h0
  have fL0 : w.frozen? ⟨L, 0, none⟩ = false := frozen_at hL 0
  have hc1I : (1 : Int) ≤ (capL : Int) := by omega
  have hend : TwAt S tb ((w.setCell ⟨tb, 19, none⟩ (.slice (some ⟨L, 0, none⟩) 1 capL)).setCell ⟨L, 0, none⟩ (.slice a0 0 p0)).drew G Fs inner t twd fg pos cs cw ht 1 [] ∧
      Upd (fun k => k = tb ∨ G k) w ((w.setCell ⟨tb, 19, none⟩ (.slice (some ⟨L, 0, none⟩) 1 capL)).setCell ⟨L, 0, none⟩ (.slice a0 0 p0)).drew := by
    have hu0 : Upd (fun k => k = tb ∨ k = L) w ((w.setCell ⟨tb, 19, none⟩ (.slice (some ⟨L, 0, none⟩) 1 capL)).setCell ⟨L, 0, none⟩ (.slice a0 0 p0)).drew :=
      (((Upd.refl (fun k => k = tb ∨ k = L) w).setCell (p := ⟨tb, 19, none⟩) (.inl (.inl rfl)) _).setCell (p := ⟨L, 0, none⟩) (.inl (.inr rfl)) _).drew
    have hu1 : Upd (fun k => k = tb ∨ G k) w _ := hu0.mono fun k hk => hk.imp id fun e => by subst e; exact hGL
    have hb1 : ((w.setCell ⟨tb, 19, none⟩ (.slice (some ⟨L, 0, none⟩) 1 capL)).setCell ⟨L, 0, none⟩ (.slice a0 0 p0)).drew.heap[tb]? = some (.cells (twCells S twd fg vb pos cs cw ht (.slice (some ⟨L, 0, none⟩) 1 capL) (.slice aw 0 cap)) 80 (0, 0)) := by
      refine (Below.heap_setCell _ _ _ _ htL).trans ((heap_setCell_at _ hb).trans ?_)
      simp [twCells]
    have hL1 : ((w.setCell ⟨tb, 19, none⟩ (.slice (some ⟨L, 0, none⟩) 1 capL)).setCell ⟨L, 0, none⟩ (.slice a0 0 p0)).drew.heap[L]? = some (.cells (cur.setIfInBounds 0 (.slice a0 0 p0)) 316 (0, 0)) :=
      heap_setCell_at _ ((Below.heap_setCell _ _ _ _ hLt).trans hL)
    refine ⟨TwAt.next hs (G' := G) hI hFt hGt hGF hfg (heap_lt hb) hu1 (fun k hk => ⟨.inl hk, Nat.lt_of_lt_of_le (hGl k hk) hu1.size⟩) (aw := aw) (cap := cap) hb1
      (hr.stable hu0 fun k hk e => ?_) hvb ⟨L, capL, _, _, rfl, hL1, by simpa using hcs, hc1, hc1, hcm, hGL, ?_, own_trunc (own_stable ho0 hu0 fun k hk e => ?_), fun k hk => hG0 k (own_same hk), fun j v hj hv => ?_, fun h => absurd h (by omega)⟩, hu1⟩
    · rcases e with rfl | rfl
      · exact hGt (hvb _ hk)
      · obtain ⟨c, hc⟩ := hr.block hk
        exact absurd (cells_type hc hL) (by decide)
    · rw [Array.getElem?_setIfInBounds_self, if_pos (by omega)]
    · rcases e with rfl | rfl
      · exact hGt (hG0 _ hk)
      · obtain ⟨c, hc⟩ := own_block ho0 hk
        exact absurd (cells_type hc hL) (by decide)
    · rw [Array.getElem?_setIfInBounds_ne (by omega)] at hv
      exact hrest.1 j v hj hv
  have HEnd := Lib.hid hend
  clear hend hb hL
  go_enter Tryz.func127, Tryz.ntmps127
  go_wp2_with fail
  go_region
  go_wp2
  go_end0
  exact ⟨rfl, HEnd.out⟩
end Go.Proofs.YtdfgcopelfmcmaaGreatFmt
