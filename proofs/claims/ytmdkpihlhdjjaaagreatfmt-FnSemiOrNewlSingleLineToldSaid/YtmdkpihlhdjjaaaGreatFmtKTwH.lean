/-
  tabwriter.Writer: writeLines behind a line feed.
-/
import Derived.Test.YtmdkpihlhdjjaaaGreatFmtKTwG
namespace Go.Proofs.YtmdkpihlhdjjaaaGreatFmt
open Go.RowKit

set_option maxRecDepth 100000 in
set_option maxHeartbeats 1000000 in
/-- One write to the sink, at a world that is wr but for new blocks: those stay. -/
theorem tw_write_fresh {S : Sink} (hs : S.Law Tryz.prog 561) (hok : ∀ c, S.okb c = true) {tb : Nat} {w wr W : World} {Fs : Nat → Prop} {inner out d : List UInt8} {v : Value} (hFt : ¬ Fs tb) (h0 : w.cell? ⟨tb, 0, none⟩ = some (.iface S.ty (.pointer (some S.ptr))))
    (h : WInv S Fs w inner out wr) (hq : Upd (fun _ => False) wr W) (hv : ∀ F, (∀ k, F k → (Fs k ∨ w.heap.size ≤ k) ∧ k < wr.heap.size) → SliceRd W F v d) (hl : inner.length + out.length + d.length ≤ LIM) :
    Calls Tryz.prog 200 #[.pointer (some ⟨tb, 0, none⟩), v] W fun e w2 => e = .returned (.tuple #[]) ∧ WInv S Fs w inner (out ++ d) w2 ∧ ∀ k, wr.heap.size ≤ k → k < W.heap.size → w2.heap[k]? = W.heap[k]? := by
  obtain ⟨F1, h1, h2, h3⟩ := h
  have h1' := hs.stable h1 hq fun _ _ h => h
  have h3' : Upd Fs w W := h3.trans (hq.mono fun _ h => h.elim)
  have hlt := hs.lt h1
  refine (tw_write0 hs (h3'.cell h0 hFt) h1' (hv F1 fun k hk => ⟨h2 k hk, hlt k hk⟩) (fun c _ => hok c) (by rw [List.length_append]; omega)).mono ?_
  rintro e w2 ⟨rfl, F2, h4, h5, h6⟩
  refine ⟨rfl, WInv.write hs ⟨F1, h1', h2, h3'⟩ h2 h3' ⟨F2, h4, h5, h6⟩, fun k hk hk' => h6.block k hk' fun hf => ?_⟩
  have := hlt k hf
  omega

set_option maxRecDepth 100000 in
set_option maxHeartbeats 4000000 in
/-- writeLines of an empty line and the beginning of the next. -/
theorem tw_wl2e {S : Sink} (hs : S.Law Tryz.prog 561) (hok : ∀ c, S.okb c = true) {tb : Nat} {w : World} {G Fs : Nat → Prop} {inner : List UInt8} {twd fg pos : Nat} {cw : Int} {ht : Bool} {x : TCell} (hx : x.n = 0)
    (h : TwAt S tb w G Fs inner [] twd fg pos 0 cw ht 2 [x]) (hl : inner.length + 1 ≤ LIM) :
    Calls Tryz.prog 188 #[.pointer (some ⟨tb, 0, none⟩), .int .i64 0, .int .i64 0, .int .i64 2] w fun e w' => e = .returned (.int .i64 0) ∧ WInv S Fs w inner [10] w' := by
  obtain ⟨vb, vl, aw, cap, hb, hr, hvb, ⟨L, capL, cur, v0, rfl, hL, hcs, hnc, hc1, hcm, hGL, h0, ho0, hG0, hrest, h1⟩, hI, hFt, hGt, hGF, hGl, hfg⟩ := h
  obtain ⟨a1, p1, hv1⟩ := h1 (Nat.le_refl _)
  obtain ⟨vT, vE, _, hsE, _, hrE⟩ := row_slices hr
  obtain ⟨g0, p0, rfl⟩ : ∃ g c, v0 = .slice (some ⟨g, 0, none⟩) 1 c := by
    rcases ho0.2 with ⟨h1, h2⟩ | ⟨g, cap, cur, h1, _, _, h2, _⟩
    · exact absurd h2 (by simp)
    · exact ⟨g, cap, h1⟩
  have hg0 : ∀ j u, [Value.int .i64 (x.n : Int), .int .i64 x.w, .bool x.h][j]? = some u → w.cell? ⟨g0, j, none⟩ = some u := fun j u hj => by
    have := ho0.cells rfl j u hj
    rwa [Addr.add_base] at this
  have hFL : ¬ Fs L := hGF L hGL
  have hFg : ¬ Fs g0 := hGF g0 (hG0 g0 rfl)
  have c0 : w.cell? ⟨tb, 0, none⟩ = some (.iface S.ty (.pointer (some S.ptr))) := cell_at hb 0
  have hk : ∀ W, Upd Fs w W → W.cell? ⟨tb, 12, none⟩ = some (.int .u64 (fg : Int)) ∧ W.cell? ⟨tb, 13, none⟩ = some vb ∧ W.cell? ⟨tb, 15, none⟩ = some (.int .i64 0) ∧ W.cell? ⟨tb, 19, none⟩ = some (.slice (some ⟨L, 0, none⟩) 2 capL) ∧ W.cell? ⟨tb, 20, none⟩ = some (.slice aw 0 cap) ∧
      W.cell? ⟨L, 0, none⟩ = some (.slice (some ⟨g0, 0, none⟩) 1 p0) ∧ W.cell? ⟨L, 1, none⟩ = some (.slice a1 0 p1) ∧ W.cell? ⟨g0, 0, none⟩ = some (.int .i64 0) ∧ W.cell? ⟨g0, 1, none⟩ = some (.int .i64 x.w) ∧ W.cell? ⟨g0, 2, none⟩ = some (.bool x.h) := fun W hu =>
    ⟨hu.cell (cell_at hb 12) hFt, hu.cell (cell_at hb 13) hFt, hu.cell (cell_at hb 15) hFt, hu.cell (cell_at hb 19) hFt, hu.cell (cell_at hb 20) hFt, hu.cell (by rw [cell_at hL]; exact h0) hFL, hu.cell (by rw [cell_at hL]; exact hv1) hFL,
      hu.cell (hg0 0 _ (by rw [hx]; rfl)) hFg, hu.cell (hg0 1 _ rfl) hFg, hu.cell (hg0 2 _ rfl) hFg⟩
  obtain ⟨c12, c13, c15, c19, c20, cL0, cL1, cg0, cg1, cg2⟩ := hk w (Upd.refl _ _)
  have hw0 : WInv S Fs w inner [] w := ⟨Fs, by rwa [List.append_nil], fun k hk => .inl hk, Upd.refl _ _⟩
  have HW := Lib.hid (fun (out : List UInt8) (wr W : World) (hW : WInv S Fs w inner out wr) (hq : Upd (fun _ => False) wr W) (hl : inner.length + out.length ≤ LIM) => tw_write_fresh hs hok hFt c0 (v := vE) (d := []) hW hq (fun F _ => hrE W F) (by simpa using hl))
  have HNL := Lib.hid (fun (wr W : World) (hW : WInv S Fs w inner [] wr) (hq : Upd (fun _ => False) wr W) => tw_write_fresh hs hok hFt c0 (v := .slice (some ⟨W.heap.size, 0, none⟩) 1 1) (W := W.alloc (.cells #[.int .u8 10] 5)) (d := [10]) hW (hq.alloc _)
    (fun F hF => .inr ⟨_, 1, rfl, fun _ => ⟨fun hf => by have h1 := (hF _ hf).2; have h2 := hq.size; simp at h1; omega, Nat.le_refl _⟩, fun j u hj => by
      rw [Addr.add_lit, cell_at (heap_alloc_new W _), Nat.zero_add]; simpa [bv, B8] using hj⟩) (by simpa using hl))
  have HW0 := Lib.hid hw0
  have HK := Lib.hid hk
  have hsE0 : ∀ W : World, (Instr.slice 31 vb (some (.int .i64 0)) (some (.int .i64 0)) none).run Tryz.prog W = .ok vE W := hsE
  have hwz : IntKind.i64.wrap 0 = 0 := by decide
  have hwz2 : IntKind.i64.wrap (0 + 0) = 0 := by decide
  clear hk hsE hrE hb hr hvb hL hcs hnc hc1 hcm hGL h0 ho0 hG0 hrest hI hGt hGF hGl hw0 hfg hv1 h1 hg0 hFL hFg
  go_enter Tryz.func188, Tryz.ntmps188
  go_wp2_with fail
  go_loopg [8, 9] 2 (fun k v8 v9 wr => v8 = .int .i64 0 ∧ ((k = 2 ∧ v9 = .int .i64 0 ∧ w = wr) ∨ (k = 1 ∧ v9 = .int .i64 1 ∧ WInv S Fs w inner [10] wr) ∨ (k = 0 ∧ v9 = .int .i64 2 ∧ WInv S Fs w inner [10] wr)))
  case atStart => exact ⟨rfl, .inl ⟨rfl, rfl, rfl⟩⟩
  case round =>
    obtain ⟨rfl, ⟨rfl, rfl, rfl⟩ | ⟨rfl, rfl, hW⟩ | ⟨rfl, rfl, hW⟩⟩ := hrel
    · go_wp2_with fail
      go_loopg [8, 36] 1 (fun k v8 v36 wr => v8 = .int .i64 0 ∧ ((k = 1 ∧ v36 = .int .i64 0 ∧ w = wr) ∨ (k = 0 ∧ v36 = .int .i64 1 ∧ Upd (fun _ => False) w wr)))
      case atStart => exact ⟨rfl, .inl ⟨rfl, rfl, rfl⟩⟩
      case round =>
        obtain ⟨rfl, ⟨rfl, rfl, rfl⟩ | ⟨rfl, rfl, hQ⟩⟩ := hrel
        · have e20 : (w.alloc (.cells #[.int .i64 0, .int .i64 x.w, .bool x.h] 78)).cell? ⟨tb, 20, none⟩ = some (.slice aw 0 cap) := Upd.cell ((Upd.refl (fun _ => False) w).alloc _) c20 fun h => h
          go_wp2_with fail
          go_roundg 0
          case measure => omega
          case rel => exact ⟨rfl, .inr ⟨rfl, rfl, (Upd.refl _ w).alloc _⟩⟩
        · clear c12 c13 c15 c19 c20 cL0 cL1 cg0 cg1 cg2
          obtain ⟨c12, c13, c15, c19, c20, cL0, cL1, cg0, cg1, cg2⟩ := HK.out wr (hQ.mono fun _ h => h.elim)
          have HQ := Lib.hid hQ; clear hQ
          go_wp2_with (first
            | (go_at_call 203; refine (tw_newline _).mono ?_; rintro e w1 ⟨rfl, rfl⟩)
            | (go_at_call 200; refine (HNL.out wr _ (HW0.out.quiet hs HQ.out) (Upd.refl _ _)).mono ?_; rintro e w2 ⟨rfl, hW2, _⟩; have HW2 := Lib.hid hW2; clear hW2))
          go_roundg 1
          case measure => omega
          case rel => exact ⟨rfl, .inr (.inl ⟨rfl, rfl, HW2.out⟩)⟩
    · clear c12 c13 c15 c19 c20 cL0 cL1 cg0 cg1 cg2
      obtain ⟨c12, c13, c15, c19, c20, cL0, cL1, cg0, cg1, cg2⟩ := HK.out wr (by obtain ⟨_, _, _, h⟩ := hW; exact h)
      have HWr := Lib.hid hW; clear hW
      go_wp2_with fail
      go_loopg [8, 36] 0 (fun k v8 v36 w' => v8 = .int .i64 0 ∧ v36 = .int .i64 0 ∧ wr = w')
      case atStart => exact ⟨rfl, rfl, rfl⟩
      case round =>
        obtain ⟨rfl, rfl, rfl⟩ := hrel
        go_wp2_with fail
        go_region_with (
          go_at_call 200
          refine (HW.out [10] wr _ HWr.out ?_ (by have := hl; simp only [List.length_singleton]; omega)).mono ?_
          exact (Upd.refl _ _).drew
          rintro e w2 ⟨rfl, hW2, _⟩
          have d15 : w2.cell? ⟨tb, 15, none⟩ = some (.int .i64 0) := by obtain ⟨F2, _, _, hU2⟩ := hW2; exact (HK.out w2 hU2).2.2.1
          have HW2 := Lib.hid hW2
          clear hW2)
        all_goals
          go_wp2_with fail
          go_roundg 0
          case measure => omega
          case rel => exact ⟨rfl, .inr (.inr ⟨rfl, rfl, HW2.out⟩)⟩
    · have HWr := Lib.hid hW; clear hW
      go_wp2_with fail
      go_ret
      exact ⟨rfl, HWr.out⟩
end Go.Proofs.YtmdkpihlhdjjaaaGreatFmt
