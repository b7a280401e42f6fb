/-
  tabwriter.Writer as a lawful sink, over a lawful sink; Init.
-/
import Derived.Test.YtnhmgjgdkcgmfaaGreatFmtTwO
namespace Go.Proofs.YtnhmgjgdkcgmfaaGreatFmt
open Go.RowKit

/-- What has been written to the tabwriter: lines that are through, and text that waits. -/
def twI (S : Sink) (tb twd fg : Nat) (w : World) (H : Nat → Prop) (l : List UInt8) : Prop := ∃ inner t, TwIdle S tb w H inner t twd fg ∧ l = inner ++ t ∧ ∀ c ∈ t, c ≠ 10

def twSink (S : Sink) (tb twd fg : Nat) : Sink := ⟨70, ⟨tb, 0, none⟩, 230, twOk, twI S tb twd fg⟩

theorem tw_law {S : Sink} (hs : S.Law Tryz.prog 531) (hok : ∀ c, S.okb c = true) (tb twd fg : Nat) : (twSink S tb twd fg).Law Tryz.prog 531 where
  meth := fun w => by kernel_rfl
  ahead := fun w => by kernel_rfl
  enters := fun args w => by kernel_rfl
  stable := by
    rintro w w' F G l ⟨inner, t, h, e, hn⟩ hu hd
    exact ⟨inner, t, h.stable hs hu hd, e, hn⟩
  lt := by
    rintro w F l ⟨inner, t, h, e, hn⟩ k hk
    exact h.lt hs k hk
  write := by
    rintro w F l v d ⟨inner, t, h, e, hn⟩ hv hk hl
    refine (tw_Write hs hok h hn hv hk (by rw [← e]; exact hl)).mono ?_
    rintro e' w' ⟨rfl, inner', t', ⟨H', h1, h2, h3⟩, heq, hn'⟩
    exact ⟨rfl, H', ⟨inner', t', h1, by rw [e, heq], hn'⟩, h2, h3⟩


/-- The cells of the Writer's struct, whatever Init is to write anew. -/
def twRawCells (o a1 a2 a3 : Value) (p : Nat → Value) (fl vb : Value) (pos cs : Nat) (cw : Int) (ht : Bool) (vl vw : Value) : Array Value :=
  #[o, a1, a2, a3, p 0, p 1, p 2, p 3, p 4, p 5, p 6, p 7, fl, vb, .int .i64 (pos : Int), .int .i64 (cs : Int), .int .i64 cw, .bool ht, .int .u8 0, vl, vw]

/-- A Writer's struct as Init may find it; G holds its rows. -/
def TwRaw (tb : Nat) (w : World) (G : Nat → Prop) : Prop :=
  ∃ o a1 a2 a3 p fl vb t pos cs cw ht vl aw cap, w.heap[tb]? = some (.cells (twRawCells o a1 a2 a3 p fl vb pos cs cw ht vl (.slice aw 0 cap)) 79 (0, 0)) ∧ Row w vb t ∧ (∀ k, vb.ownBlock = some k → G k) ∧ (vl = .slice none 0 0 ∨ ∃ nl c0, TwLines w G vl nl c0) ∧
    ¬ G tb ∧ (∀ k, G k → k < w.heap.size)

theorem TwAt.raw {S : Sink} {tb : Nat} {w : World} {G Fs : Nat → Prop} {inner t : List UInt8} {twd fg pos cs : Nat} {cw : Int} {ht : Bool} {nl : Nat} {c0 : List TCell} (h : TwAt S tb w G Fs inner t twd fg pos cs cw ht nl c0) : TwRaw tb w G := by
  obtain ⟨vb, vl, aw, cap, hb, hr, hvb, hl, hI, hFt, hGt, hGF, hGl, hfg⟩ := h
  exact ⟨_, _, _, _, fun _ => .int .u8 32, _, vb, t, pos, cs, cw, ht, vl, aw, cap, hb, hr, hvb, .inr ⟨nl, c0, hl⟩, hGt, hGl⟩

theorem TwLines.stable' {w w' : World} {G F : Nat → Prop} {vl : Value} {nl : Nat} {c0 : List TCell} (h : TwLines w G vl nl c0) (hu : Upd F w w') (hd : ∀ k, G k → ¬ F k) : TwLines w' G vl nl c0 := by
  obtain ⟨L, cap, cur, v0, h1, h2, h3, h4, h5, h6, h7, h8, h9, h10, h11⟩ := h
  exact ⟨L, cap, cur, v0, h1, hu.heap h2 (hd L h7), h3, h4, h5, h6, h7, h8, own_stable h9 hu fun k hk => hd k (h10 k hk), h10, h11⟩

theorem TwRaw.stable {tb : Nat} {w w' : World} {G F : Nat → Prop} (h : TwRaw tb w G) (hu : Upd F w w') (hd : ∀ k, (k = tb ∨ G k) → ¬ F k) : TwRaw tb w' G := by
  obtain ⟨o, a1, a2, a3, p, fl, vb, t, pos, cs, cw, ht, vl, aw, cap, hb, hr, hvb, hl, hGt, hGl⟩ := h
  refine ⟨o, a1, a2, a3, p, fl, vb, t, pos, cs, cw, ht, vl, aw, cap, hu.heap hb (hd tb (.inl rfl)), hr.stable hu fun k hk => hd k (.inr (hvb k hk)), hvb, ?_, hGt, fun k hk => Nat.lt_of_lt_of_le (hGl k hk) hu.size⟩
  rcases hl with rfl | ⟨nl, c0, hl⟩
  · exact .inl rfl
  · exact .inr ⟨nl, c0, hl.stable' hu fun k hk => hd k (.inr hk)⟩

theorem TwRaw.zero {tb : Nat} {w : World} (h : w.heap[tb]? = some (.cells (twRawCells .nilIface (.int .i64 0) (.int .i64 0) (.int .i64 0) (fun _ => .int .u8 0) (.int .u64 0) (.slice none 0 0) 0 0 0 false (.slice none 0 0) (.slice none 0 0)) 79 (0, 0))) : TwRaw tb w (fun _ => False) :=
  ⟨_, _, _, _, _, _, _, [], 0, 0, 0, false, _, none, 0, h, Row.nil w, fun k hk => by simp [Value.ownBlock] at hk, .inl rfl, fun h => h, fun _ h => h.elim⟩

/-- The pad bytes, of which i are written. -/
def padded (p : Nat → Value) (i j : Nat) : Value := if j < i then .int .u8 32 else p j

theorem padded_step (o a1 a2 a3 : Value) (p : Nat → Value) (fl vb : Value) (pos cs : Nat) (cw : Int) (ht : Bool) (vl vw : Value) {i : Nat} (hi : i < 8) :
    (twRawCells o a1 a2 a3 (padded p i) fl vb pos cs cw ht vl vw).setIfInBounds (4 + i) (.int .u8 32) = twRawCells o a1 a2 a3 (padded p (i + 1)) fl vb pos cs cw ht vl vw := by
  rcases i with _ | _ | _ | _ | _ | _ | _ | _ | i
  all_goals first | omega | simp [twRawCells, padded]

theorem padded_at (o a1 a2 a3 : Value) (p : Nat → Value) (fl vb : Value) (pos cs : Nat) (cw : Int) (ht : Bool) (vl vw : Value) {i : Nat} (hi : i < 8) :
    ∃ v, (twRawCells o a1 a2 a3 p fl vb pos cs cw ht vl vw)[4 + i]? = some v := ⟨_, Array.getElem?_eq_getElem (by simp [twRawCells]; omega)⟩

set_option maxRecDepth 100000 in
set_option maxHeartbeats 4000000 in
/-- Init over a sink to which nothing has been written. -/
theorem tw_Init {S : Sink} (hs : S.Law Tryz.prog 531) {tb : Nat} {w : World} {G Fs : Nat → Prop} {twd fg : Nat} (h : TwRaw tb w G) (hI : S.I w Fs []) (hFt : ¬ Fs tb) (hGF : ∀ k, G k → ¬ Fs k) (hfg : fg = 10 ∨ fg = 26) :
    Calls Tryz.prog 30 #[.pointer (some ⟨tb, 0, none⟩), .iface S.ty (.pointer (some S.ptr)), .int .i64 0, .int .i64 (twd : Int), .int .i64 1, .int .u8 32, .int .u64 (fg : Int)] w fun e w' =>
      e = .returned (.pointer (some ⟨tb, 0, none⟩)) ∧ ∃ H', TwIdle S tb w' H' [] [] twd fg ∧ (∀ k, H' k → (k = tb ∨ G k ∨ Fs k) ∨ w.heap.size ≤ k) ∧ (∀ k, Fs k → H' k) ∧ Upd (fun k => k = tb ∨ G k) w w' := by
  obtain ⟨o, a1, a2, a3, p, fl, vb, t, pos, cs, cw, ht, vl, aw, cap, hb, hr, hvb, hlines, hGt, hGl⟩ := h
  have c0 : w.cell? ⟨tb, 0, none⟩ = some o := cell_at hb 0
  have c1 : w.cell? ⟨tb, 1, none⟩ = some a1 := cell_at hb 1
  have c2 : w.cell? ⟨tb, 2, none⟩ = some a2 := cell_at hb 2
  have c3 : w.cell? ⟨tb, 3, none⟩ = some a3 := cell_at hb 3
  have f0 : w.frozen? ⟨tb, 0, none⟩ = false := frozen_at hb 0
  have f1 : w.frozen? ⟨tb, 1, none⟩ = false := frozen_at hb 1
  have f2 : w.frozen? ⟨tb, 2, none⟩ = false := frozen_at hb 2
  have f3 : w.frozen? ⟨tb, 3, none⟩ = false := frozen_at hb 3
  have hnt : ¬ (twd : Int) < 0 := by omega
  obtain ⟨W0, hW0⟩ : ∃ W0, W0 = ((((w.setCell ⟨tb, 0, none⟩ (.iface S.ty (.pointer (some S.ptr)))).setCell ⟨tb, 1, none⟩ (.int .i64 0)).setCell ⟨tb, 2, none⟩ (.int .i64 (twd : Int))).setCell ⟨tb, 3, none⟩ (.int .i64 1)) := ⟨_, rfl⟩
  have hb0 : W0.heap[tb]? = some (.cells (twRawCells (.iface S.ty (.pointer (some S.ptr))) (.int .i64 0) (.int .i64 (twd : Int)) (.int .i64 1) p fl vb pos cs cw ht vl (.slice aw 0 cap)) 79 (0, 0)) := by
    rw [hW0]
    refine (heap_setCell_at _ (heap_setCell_at _ (heap_setCell_at _ (heap_setCell_at _ hb)))).trans ?_
    simp [twRawCells]
  have hu0 : Upd (fun k => k = tb) w W0 := by
    rw [hW0]
    exact Upd.setCell (F := fun k => k = tb) (Upd.setCell (F := fun k => k = tb) (Upd.setCell (F := fun k => k = tb) (Upd.setCell (F := fun k => k = tb) (Upd.refl _ w) (p := ⟨tb, 0, none⟩) (.inl rfl) _) (p := ⟨tb, 1, none⟩) (.inl rfl) _) (p := ⟨tb, 2, none⟩) (.inl rfl) _) (p := ⟨tb, 3, none⟩) (.inl rfl) _
  have hfin : ∀ W, W.heap[tb]? = some (.cells (twRawCells (.iface S.ty (.pointer (some S.ptr))) (.int .i64 0) (.int .i64 (twd : Int)) (.int .i64 1) (padded p 8) (.int .u64 (fg : Int)) vb pos cs cw ht vl (.slice aw 0 cap)) 79 (0, 0)) → Upd (fun k => k = tb) w W →
      TwPre S tb W G Fs [] twd fg := fun W hW hu => by
    refine ⟨vb, t, pos, cs, cw, ht, vl, aw, cap, hW, hr.stable hu fun k hk e => hGt (e ▸ hvb k hk), hvb, ?_, hs.stable hI hu fun k hk e => hFt (e ▸ hk), hFt, hGt, hGF, fun k hk => Nat.lt_of_lt_of_le (hGl k hk) hu.size, hfg⟩
    rcases hlines with rfl | ⟨nl, c0, hl⟩
    · exact .inl rfl
    · exact .inr ⟨nl, c0, hl.stable' hu fun k hk e => hGt (e ▸ hk)⟩
  have HFin := Lib.hid hfin
  have HB0 := Lib.hid hb0
  have HU0 := Lib.hid hu0
  clear hfin hb0 hu0 hb hr hvb hlines hGt hGl hI hFt hGF hfg
  go_enter Tryz.func30, Tryz.ntmps30
  go_wp2_with fail
  rw [← hW0]
  clear hW0
  go_loopg [43] 8 (fun k v43 wr => ∃ i : Nat, v43 = .int .i64 (i : Int) ∧ i + k = 8 ∧ wr.heap[tb]? = some (.cells (twRawCells (.iface S.ty (.pointer (some S.ptr))) (.int .i64 0) (.int .i64 (twd : Int)) (.int .i64 1) (padded p i) fl vb pos cs cw ht vl (.slice aw 0 cap)) 79 (0, 0)) ∧ Upd (fun k => k = tb) w wr)
  case atStart => exact ⟨0, rfl, rfl, by have := HB0.out; simpa [padded, twRawCells] using this, HU0.out⟩
  case round =>
    obtain ⟨i, rfl, hik, hbr, hur⟩ := hrel
    have HBr := Lib.hid hbr
    have HUr := Lib.hid hur
    have HIK := Lib.hid hik
    by_cases hlt : i < 8
    · have hltI : (i : Int) < 8 := by omega
      obtain ⟨v, hv⟩ := padded_at (.iface S.ty (.pointer (some S.ptr))) (.int .i64 0) (.int .i64 (twd : Int)) (.int .i64 1) (padded p i) fl vb pos cs cw ht vl (.slice aw 0 cap) hlt
      have ci : wr.cell? ⟨tb, 4 + i, none⟩ = some v := by rw [cell_at hbr]; exact hv
      have fi : wr.frozen? ⟨tb, 4 + i, none⟩ = false := frozen_at hbr _
      clear hbr hur hik hv
      go_wp2_with fail
      go_roundg (8 - (i + 1))
      case measure => have := HIK.out; omega
      case rel =>
        refine ⟨i + 1, by go_num, by have := HIK.out; omega, ?_, HUr.out.setCell (p := ⟨tb, 4 + i, none⟩) (.inl rfl) _⟩
        rw [← padded_step _ _ _ _ _ _ _ _ _ _ _ _ _ hlt]
        exact heap_setCell_at _ HBr.out
    · obtain rfl : i = 8 := by omega
      have c12 : wr.cell? ⟨tb, 12, none⟩ = some fl := cell_at hbr 12
      have f12 : wr.frozen? ⟨tb, 12, none⟩ = false := frozen_at hbr 12
      have hpre := HFin.out (wr.setCell ⟨tb, 12, none⟩ (.int .u64 (fg : Int))) (by
        refine (heap_setCell_at _ hbr).trans ?_
        simp [twRawCells]) (hur.setCell (p := ⟨tb, 12, none⟩) (.inl rfl) _)
      have HU2 := Lib.hid (hur.setCell (p := ⟨tb, 12, none⟩) (.inl rfl) (.int .u64 (fg : Int)))
      obtain ⟨Q, HQ, HC⟩ := callsVar (tw_reset hs hpre)
      clear hbr hur hik hpre
      go_wp2_with (go_at_call 46; refine HC.out.mono ?_)
      rintro e w2 hq
      obtain ⟨rfl, hP⟩ := HQ.out e w2 hq
      clear hq
      have HP := Lib.hid hP; clear hP
      go_wp2_with fail
      go_ret
      obtain ⟨G', h1, h2, h3⟩ := HP.out
      refine ⟨rfl, fun k => k = tb ∨ G' k ∨ Fs k, ⟨G', Fs, h1, fun k => Iff.rfl⟩, fun k hk => ?_, fun k hk => .inr (.inr hk), (HU2.out.mono fun k hk => .inl hk).trans h3⟩
      rcases hk with hk | hk | hk
      · exact .inl (.inl hk)
      · rcases h2 k hk with h | h
        · exact .inl (.inr (.inl h))
        · exact .inr (Nat.le_trans HU2.out.size h)
      · exact .inl (.inr (.inr hk))
end Go.Proofs.YtnhmgjgdkcgmfaaGreatFmt
