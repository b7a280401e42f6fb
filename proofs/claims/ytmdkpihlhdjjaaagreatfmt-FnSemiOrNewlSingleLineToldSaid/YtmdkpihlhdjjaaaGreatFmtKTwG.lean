/-
  tabwriter.Writer: writeLines, without columns.
-/
import Derived.Test.YtmdkpihlhdjjaaaGreatFmtKTwCX
namespace Go.Proofs.YtmdkpihlhdjjaaaGreatFmt
open Go.RowKit

/-- The state after a write to the sink. -/
theorem TwAt.wrote {P : Program} {fuel : Nat} {S : Sink} (_ : S.Law P fuel) {tb : Nat} {w w' : World} {G Fs F' : Nat → Prop} {inner inner' t : List UInt8} {twd fg pos cs : Nat} {cw : Int} {ht : Bool} {nl : Nat} {c0 : List TCell}
    (h : TwAt S tb w G Fs inner t twd fg pos cs cw ht nl c0) (hI' : S.I w' F' inner') (hF' : ∀ k, F' k → Fs k ∨ w.heap.size ≤ k) (hu : Upd Fs w w') : TwAt S tb w' G F' inner' t twd fg pos cs cw ht nl c0 := by
  obtain ⟨vb, vl, aw, cap, hb, hr, hvb, ⟨L, capL, cur, v0, h1, hL, h3, h4, h5, h6, hGL, h8, ho0, hG0, h11⟩, hI, hFt, hGt, hGF, hGl, hfg⟩ := h
  have hn : ∀ k, k < w.heap.size → ¬ Fs k → ¬ F' k := fun k hk hn hf => by
    rcases hF' k hf with h | h
    · exact hn h
    · omega
  exact ⟨vb, vl, aw, cap, hu.heap hb hFt, hr.stable hu fun k hk => hGF k (hvb k hk), hvb, ⟨L, capL, cur, v0, h1, hu.heap hL (hGF L hGL), h3, h4, h5, h6, hGL, h8, own_stable ho0 hu fun k hk => hGF k (hG0 k hk), hG0, h11⟩,
    hI', hn _ (heap_lt hb) hFt, hGt, fun k hk => hn k (hGl k hk) (hGF k hk), fun k hk => Nat.lt_of_lt_of_le (hGl k hk) hu.size, hfg⟩

theorem TwAt.quiet {P : Program} {fuel : Nat} {S : Sink} (hs : S.Law P fuel) {tb : Nat} {w w' : World} {G Fs : Nat → Prop} {inner t : List UInt8} {twd fg pos cs : Nat} {cw : Int} {ht : Bool} {nl : Nat} {c0 : List TCell}
    (h : TwAt S tb w G Fs inner t twd fg pos cs cw ht nl c0) (hu : Upd (fun _ => False) w w') : TwAt S tb w' G Fs inner t twd fg pos cs cw ht nl c0 := by
  have hI : S.I w Fs inner := by obtain ⟨vb, vl, aw, cap, hb, hr, hvb, hl, hI, _⟩ := h; exact hI
  exact h.wrote hs (hs.stable hI hu fun _ _ h => h) (fun _ hk => .inl hk) (hu.mono fun _ h => h.elim)

/-- What has come to the sink since w. -/
def WInv (S : Sink) (Fs : Nat → Prop) (w : World) (inner out : List UInt8) (wr : World) : Prop := ∃ Fr, S.I wr Fr (inner ++ out) ∧ (∀ k, Fr k → Fs k ∨ w.heap.size ≤ k) ∧ Upd Fs w wr

theorem WInv.write {P : Program} {fuel : Nat} {S : Sink} (_ : S.Law P fuel) {Fs : Nat → Prop} {w w1 : World} {inner out : List UInt8} (_ : WInv S Fs w inner out w1) {d : List UInt8} {w2 : World} {F1 : Nat → Prop}
    (hF1 : ∀ k, F1 k → Fs k ∨ w.heap.size ≤ k) (hu1 : Upd Fs w w1) (h2 : ∃ F', S.I w2 F' (inner ++ out ++ d) ∧ (∀ k, F' k → F1 k ∨ w1.heap.size ≤ k) ∧ Upd F1 w1 w2) : WInv S Fs w inner (out ++ d) w2 := by
  obtain ⟨F', h3, h4, h5⟩ := h2
  refine ⟨F', by rwa [← List.append_assoc], fun k hk => ?_, hu1.trans' h5 hF1⟩
  rcases h4 k hk with h | h
  · exact hF1 k h
  · exact .inr (Nat.le_trans hu1.size h)

theorem WInv.quiet {P : Program} {fuel : Nat} {S : Sink} (hs : S.Law P fuel) {Fs : Nat → Prop} {w w1 w2 : World} {inner out : List UInt8} (h : WInv S Fs w inner out w1) (hu : Upd (fun _ => False) w1 w2) : WInv S Fs w inner out w2 := by
  obtain ⟨Fr, h1, h2, h3⟩ := h
  exact ⟨Fr, hs.stable h1 hu fun _ _ h => h, h2, h3.trans (hu.mono fun _ h => h.elim)⟩

set_option maxRecDepth 100000 in
set_option maxHeartbeats 1000000 in
/-- One write to the sink, at whatever world. -/
theorem tw_write_inv {S : Sink} (hs : S.Law Tryz.prog 561) (hok : ∀ c, S.okb c = true) {tb : Nat} {w w1 : World} {Fs : Nat → Prop} {inner out d : List UInt8} {v : Value} (hFt : ¬ Fs tb) (h0 : w.cell? ⟨tb, 0, none⟩ = some (.iface S.ty (.pointer (some S.ptr))))
    (h : WInv S Fs w inner out w1) (hv : ∀ F, (∀ k, F k → Fs k ∨ w.heap.size ≤ k) → SliceRd w1 F v d) (hl : inner.length + out.length + d.length ≤ LIM) :
    Calls Tryz.prog 200 #[.pointer (some ⟨tb, 0, none⟩), v] w1 fun e w2 => e = .returned (.tuple #[]) ∧ WInv S Fs w inner (out ++ d) w2 := by
  obtain ⟨F1, h1, h2, h3⟩ := h
  refine (tw_write0 hs (h3.cell h0 hFt) h1 (hv F1 h2) (fun c _ => hok c) (by rw [List.length_append]; omega)).mono ?_
  rintro e w2 ⟨rfl, h4⟩
  exact ⟨rfl, WInv.write hs ⟨F1, h1, h2, h3⟩ h2 h3 h4⟩

set_option maxRecDepth 100000 in
set_option maxHeartbeats 4000000 in
/-- writeLines where the only line is empty. -/
theorem tw_wl0 {S : Sink} (hs : S.Law Tryz.prog 561) (hok : ∀ c, S.okb c = true) {tb : Nat} {w : World} {G Fs : Nat → Prop} {inner : List UInt8} {twd fg pos : Nat} {cw : Int} {ht : Bool}
    (h : TwAt S tb w G Fs inner [] twd fg pos 0 cw ht 1 []) (hl : inner.length ≤ LIM) :
    Calls Tryz.prog 188 #[.pointer (some ⟨tb, 0, none⟩), .int .i64 0, .int .i64 0, .int .i64 1] w fun e w' => e = .returned (.int .i64 0) ∧ WInv S Fs w inner [] w' := by
  obtain ⟨vb, vl, aw, cap, hb, hr, hvb, ⟨L, capL, cur, v0, rfl, hL, hcs, hnc, hc1, hcm, hGL, h0, ho0, hG0, hrest⟩, hI, hFt, hGt, hGF, hGl, hfg⟩ := h
  obtain ⟨vT, vE, _, hsE, _, hrE⟩ := row_slices hr
  obtain ⟨a0, p0, rfl⟩ : ∃ ao c, v0 = .slice ao 0 c := by
    rcases ho0.2 with ⟨h1, h2⟩ | ⟨g, cap, cur, h1, _, _, h2, _⟩
    · exact ⟨none, 0, h1⟩
    · exact ⟨_, _, h1⟩
  have c0 : w.cell? ⟨tb, 0, none⟩ = some (.iface S.ty (.pointer (some S.ptr))) := cell_at hb 0
  have c12 : w.cell? ⟨tb, 12, none⟩ = some (.int .u64 (fg : Int)) := cell_at hb 12
  have c13 : w.cell? ⟨tb, 13, none⟩ = some vb := cell_at hb 13
  have c15 : w.cell? ⟨tb, 15, none⟩ = some (.int .i64 0) := cell_at hb 15
  have c19 : w.cell? ⟨tb, 19, none⟩ = some (.slice (some ⟨L, 0, none⟩) 1 capL) := cell_at hb 19
  have c20 : w.cell? ⟨tb, 20, none⟩ = some (.slice aw 0 cap) := cell_at hb 20
  have cL0 : w.cell? ⟨L, 0, none⟩ = some (.slice a0 0 p0) := by rw [cell_at hL]; exact h0
  have hw0 : WInv S Fs w inner [] w := ⟨Fs, by rwa [List.append_nil], fun k hk => .inl hk, Upd.refl _ _⟩
  have HW := Lib.hid (fun (W : World) (hW : WInv S Fs w inner [] W) => tw_write_inv hs hok hFt c0 (v := vE) (d := []) hW (fun F _ => hrE W F) (by simpa using hl))
  have HW0 := Lib.hid hw0
  have hsE0 : ∀ W : World, (Instr.slice 31 vb (some (.int .i64 0)) (some (.int .i64 0)) none).run Tryz.prog W = .ok vE W := hsE
  have hwz : IntKind.i64.wrap 0 = 0 := by decide
  have hwz2 : IntKind.i64.wrap (0 + 0) = 0 := by decide
  clear hsE hrE hb hr hvb hL hcs hnc hc1 hcm hGL h0 ho0 hG0 hrest hI hGt hGF hGl hw0 hfg
  go_enter Tryz.func188, Tryz.ntmps188
  go_wp2_with fail
  go_loopg [8, 9] 1 (fun k v8 v9 wr => v8 = .int .i64 0 ∧ ((k = 1 ∧ v9 = .int .i64 0 ∧ w = wr) ∨ (k = 0 ∧ v9 = .int .i64 1 ∧ WInv S Fs w inner [] wr)))
  case atStart => exact ⟨rfl, .inl ⟨rfl, rfl, rfl⟩⟩
  case round =>
    obtain ⟨rfl, ⟨rfl, rfl, rfl⟩ | ⟨rfl, rfl, hW⟩⟩ := hrel
    · go_wp2_with fail
      go_loopg [8, 36] 0 (fun k v8 v36 wr => v8 = .int .i64 0 ∧ v36 = .int .i64 0 ∧ w = wr)
      case atStart => exact ⟨rfl, rfl, rfl⟩
      case round =>
        obtain ⟨rfl, rfl, rfl⟩ := hrel
        go_wp2_with fail
        go_region_with (
          go_at_call 200
          refine (HW.out _ (HW0.out.quiet hs ?_)).mono ?_
          exact (Upd.refl _ _).drew
          rintro e w2 ⟨rfl, hW2⟩
          have d15 : w2.cell? ⟨tb, 15, none⟩ = some (.int .i64 0) := by obtain ⟨F2, _, _, hU2⟩ := hW2; exact hU2.cell c15 hFt
          have HW2 := Lib.hid hW2
          clear hW2)
        all_goals
          go_wp2_with fail
          go_roundg 0
          case measure => omega
          case rel => exact ⟨rfl, .inr ⟨rfl, rfl, HW2.out⟩⟩
    · have HWr := Lib.hid hW; clear hW
      go_wp2_with fail
      go_ret
      exact ⟨rfl, HWr.out⟩
end Go.Proofs.YtmdkpihlhdjjaaaGreatFmt
