/-
  tabwriter.Writer: writeLines of a line that holds text, where another begins.
  tabwriter.Writer: writeLines of a line that holds text, where it is the last one.
-/
import Derived.Test.YtmdkpihlhdjjaaaGreatFmtKTwH
namespace Go.Proofs.YtmdkpihlhdjjaaaGreatFmt
open Go.RowKit

set_option maxRecDepth 100000 in
set_option maxHeartbeats 8000000 in
/-- writeLines of a line that holds text and of the beginning of the next. -/
theorem tw_wl2n {S : Sink} (hs : S.Law Tryz.prog 561) (hok : ∀ c, S.okb c = true) {tb : Nat} {w : World} {G Fs : Nat → Prop} {inner t : List UInt8} {twd fg pos : Nat} {cw : Int} {ht : Bool} {x : TCell} (hx : x.n = t.length) (hne : t ≠ [])
    (h : TwAt S tb w G Fs inner t twd fg pos 0 cw ht 2 [x]) (hl : inner.length + t.length + 1 ≤ LIM) :
    Calls Tryz.prog 188 #[.pointer (some ⟨tb, 0, none⟩), .int .i64 0, .int .i64 0, .int .i64 2] w fun e w' => e = .returned (.int .i64 (t.length : Int)) ∧ WInv S Fs w inner (t ++ [10]) w' := by
  have hLIM : LIM = 1099511627776 := rfl
  obtain ⟨vb, vl, aw, cap, hb, hr, hvb, ⟨L, capL, cur, v0, rfl, hL, hcs, hnc, hc1, hcm, hGL, h0, ho0, hG0, hrest, h1⟩, hI, hFt, hGt, hGF, hGl, hfg⟩ := h
  obtain ⟨a1, p1, hv1⟩ := h1 (Nat.le_refl _)
  obtain ⟨vT, vE, hsT, hsE, hrT, hrE⟩ := row_slices hr
  obtain ⟨g0, p0, rfl⟩ : ∃ g c, v0 = .slice (some ⟨g, 0, none⟩) 1 c := by
    rcases ho0.2 with ⟨h1, h2⟩ | ⟨g, cap, cur, h1, _, _, h2, _⟩
    · exact absurd h2 (by simp)
    · exact ⟨g, cap, h1⟩
  have hg0 : ∀ j u, [Value.int .i64 (x.n : Int), .int .i64 x.w, .bool x.h][j]? = some u → w.cell? ⟨g0, j, none⟩ = some u := fun j u hj => by
    have := ho0.cells rfl j u hj
    rwa [Addr.add_base] at this
  have hFL : ¬ Fs L := hGF L hGL
  have hFg : ¬ Fs g0 := hGF g0 (hG0 g0 rfl)
  have c0 : w.cell? ⟨tb, 0, none⟩ = some (.iface S.ty (.pointer (some S.ptr))) := cell_at hb 0
  have hk : ∀ W, Upd Fs w W → W.cell? ⟨tb, 12, none⟩ = some (.int .u64 (fg : Int)) ∧ W.cell? ⟨tb, 13, none⟩ = some vb ∧ W.cell? ⟨tb, 15, none⟩ = some (.int .i64 0) ∧ W.cell? ⟨tb, 19, none⟩ = some (.slice (some ⟨L, 0, none⟩) 2 capL) ∧ W.cell? ⟨tb, 20, none⟩ = some (.slice aw 0 cap) ∧
      W.cell? ⟨L, 0, none⟩ = some (.slice (some ⟨g0, 0, none⟩) 1 p0) ∧ W.cell? ⟨L, 1, none⟩ = some (.slice a1 0 p1) ∧ W.cell? ⟨g0, 0, none⟩ = some (.int .i64 (t.length : Int)) ∧ W.cell? ⟨g0, 1, none⟩ = some (.int .i64 x.w) ∧ W.cell? ⟨g0, 2, none⟩ = some (.bool x.h) := fun W hu =>
    ⟨hu.cell (cell_at hb 12) hFt, hu.cell (cell_at hb 13) hFt, hu.cell (cell_at hb 15) hFt, hu.cell (cell_at hb 19) hFt, hu.cell (cell_at hb 20) hFt, hu.cell (by rw [cell_at hL]; exact h0) hFL, hu.cell (by rw [cell_at hL]; exact hv1) hFL,
      hu.cell (hg0 0 _ (by rw [hx]; rfl)) hFg, hu.cell (hg0 1 _ rfl) hFg, hu.cell (hg0 2 _ rfl) hFg⟩
  obtain ⟨c12, c13, c15, c19, c20, cL0, cL1, cg0, cg1, cg2⟩ := hk w (Upd.refl _ _)
  have hw0 : WInv S Fs w inner [] w := ⟨Fs, by rwa [List.append_nil], fun k hk => .inl hk, Upd.refl _ _⟩
  have HW := Lib.hid (fun (out : List UInt8) (wr W : World) (hW : WInv S Fs w inner out wr) (hq : Upd (fun _ => False) wr W) (hl : inner.length + out.length ≤ LIM) => tw_write_fresh hs hok hFt c0 (v := vE) (d := []) hW hq (fun F _ => hrE W F) (by simpa using hl))
  have HT := Lib.hid (fun (W : World) (hq : Upd (fun _ => False) w W) => tw_write_fresh hs hok hFt c0 (w := w) (wr := w) (W := W) (v := vT) (d := t) (out := []) hw0 hq (fun F hF => hrT W F (hr.stable hq fun _ _ h => h) fun k hk hf => by
    have h := hF k hf
    rcases h.1 with h1 | h1
    · exact hGF k (hvb k hk) h1
    · exact absurd (hGl k (hvb k hk)) (by omega)) (by simp only [List.length_nil]; omega))
  have HNL := Lib.hid (fun (wr W : World) (hW : WInv S Fs w inner t wr) (hq : Upd (fun _ => False) wr W) => tw_write_fresh hs hok hFt c0 (v := .slice (some ⟨W.heap.size, 0, none⟩) 1 1) (W := W.alloc (.cells #[.int .u8 10] 5)) (d := [10]) hW (hq.alloc _)
    (fun F hF => .inr ⟨_, 1, rfl, fun _ => ⟨fun hf => by have h1 := (hF _ hf).2; have h2 := hq.size; simp at h1; omega, Nat.le_refl _⟩, fun j u hj => by
      rw [Addr.add_lit, cell_at (heap_alloc_new W _), Nat.zero_add]; simpa [bv, B8] using hj⟩) (by simpa using hl))
  have HK := Lib.hid hk
  have hsT0 : ∀ W : World, (Instr.slice 31 vb (some (.int .i64 0)) (some (.int .i64 (t.length : Int))) none).run Tryz.prog W = .ok vT W := hsT
  have hsE0 : ∀ W : World, (Instr.slice 31 vb (some (.int .i64 (t.length : Int))) (some (.int .i64 (t.length : Int))) none).run Tryz.prog W = .ok vE W := hsE
  have hpos : 0 < t.length := List.length_pos_iff.2 hne
  have hwn : IntKind.i64.wrap (t.length : Int) = (t.length : Int) := by rw [IntKind.wrap_i64]; omega
  have hwn0 : IntKind.i64.wrap (0 + (t.length : Int)) = (t.length : Int) := by rw [IntKind.wrap_i64]; omega
  have hwn1 : IntKind.i64.wrap ((t.length : Int) + 0) = (t.length : Int) := by rw [IntKind.wrap_i64]; omega
  have hnz : ¬ (t.length : Int) = 0 := by omega
  have hnz' : ((t.length : Int) == 0) = false := by rw [beq_eq_false_iff_ne]; exact hnz
  have hf4 : (bits BinOp.and IntKind.u64 (fg : Int) 4 == 0) = true := by rcases hfg with rfl | rfl <;> decide
  have hlT : (t.length : Int) ≤ 1099511627776 := by omega
  clear hk hsE hsT hrE hrT hb hr hvb hL hcs hnc hc1 hcm hGL h0 ho0 hG0 hrest hI hGt hGF hGl hw0 hfg hv1 h1 hg0 hFL hFg hx hne hpos
  go_enter Tryz.func188, Tryz.ntmps188
  go_wp2_with fail
  go_loopg [8, 9] 2 (fun k v8 v9 wr => (k = 2 ∧ v8 = .int .i64 0 ∧ v9 = .int .i64 0 ∧ w = wr) ∨ (k = 1 ∧ v8 = .int .i64 (t.length : Int) ∧ v9 = .int .i64 1 ∧ WInv S Fs w inner (t ++ [10]) wr) ∨ (k = 0 ∧ v8 = .int .i64 (t.length : Int) ∧ v9 = .int .i64 2 ∧ WInv S Fs w inner (t ++ [10]) wr))
  case atStart => exact .inl ⟨rfl, rfl, rfl, rfl⟩
  case round =>
    obtain ⟨rfl, rfl, rfl, rfl⟩ | ⟨rfl, rfl, rfl, hW⟩ | ⟨rfl, rfl, rfl, hW⟩ := hrel
    · go_wp2_with fail
      go_loopg [8, 36] 1 (fun k v8 v36 wr => (k = 1 ∧ v8 = .int .i64 0 ∧ v36 = .int .i64 0 ∧ w = wr) ∨ (k = 0 ∧ v8 = .int .i64 (t.length : Int) ∧ v36 = .int .i64 1 ∧ WInv S Fs w inner t wr))
      case atStart => exact .inl ⟨rfl, rfl, rfl, rfl⟩
      case round =>
        obtain ⟨rfl, rfl, rfl, rfl⟩ | ⟨rfl, rfl, rfl, hW⟩ := hrel
        · have hnew : (w.alloc (.cells #[.int .i64 (t.length : Int), .int .i64 x.w, .bool x.h] 78)).heap[w.heap.size]? = some (.cells #[.int .i64 (t.length : Int), .int .i64 x.w, .bool x.h] 78 (0, 0)) := heap_alloc_new w _
          obtain ⟨e12, e13, e15, e19, e20, _⟩ := HK.out (w.alloc (.cells #[.int .i64 (t.length : Int), .int .i64 x.w, .bool x.h] 78)) ((Upd.refl _ w).alloc _)
          have en0 : (w.alloc (.cells #[.int .i64 (t.length : Int), .int .i64 x.w, .bool x.h] 78)).cell? ⟨w.heap.size, 0, none⟩ = some (.int .i64 (t.length : Int)) := cell_at hnew 0
          have HNew := Lib.hid hnew
          clear hnew
          go_wp2_with fail
          go_region_with (
            go_at_call 200
            refine (HT.out _ ?_).mono ?_
            exact ((Upd.refl _ w).alloc _).drew
            rintro e w2 ⟨rfl, hW2, hN2⟩
            have HN2 := Lib.hid ((hN2 w.heap.size (Nat.le_refl _) (by simp)).trans HNew.out)
            have n0 : w2.cell? ⟨w.heap.size, 0, none⟩ = some (.int .i64 (t.length : Int)) := cell_at HN2.out 0
            obtain ⟨k12, k13, k15, k19, k20, _⟩ := HK.out w2 (by obtain ⟨_, _, _, h⟩ := hW2; exact h)
            have HW2 := Lib.hid hW2
            clear hW2 hN2)
          all_goals
            go_wp2_with fail
            go_roundg 0
            case measure => omega
            case rel => exact .inr ⟨rfl, rfl, rfl, HW2.out⟩
        · clear c12 c13 c15 c19 c20 cL0 cL1 cg0 cg1 cg2
          obtain ⟨c12, c13, c15, c19, c20, cL0, cL1, cg0, cg1, cg2⟩ := HK.out wr (by obtain ⟨_, _, _, h⟩ := hW; exact h)
          have HWr := Lib.hid hW; clear hW
          go_wp2_with (first
            | (go_at_call 203; refine (tw_newline _).mono ?_; rintro e w1 ⟨rfl, rfl⟩)
            | (go_at_call 200; refine (HNL.out wr _ HWr.out (Upd.refl _ _)).mono ?_; rintro e w2 ⟨rfl, hW2, _⟩; have HW2 := Lib.hid hW2; clear hW2))
          go_roundg 1
          case measure => omega
          case rel => exact .inr (.inl ⟨rfl, rfl, rfl, HW2.out⟩)
    · clear c12 c13 c15 c19 c20 cL0 cL1 cg0 cg1 cg2
      obtain ⟨c12, c13, c15, c19, c20, cL0, cL1, cg0, cg1, cg2⟩ := HK.out wr (by obtain ⟨_, _, _, h⟩ := hW; exact h)
      have HWr := Lib.hid hW; clear hW
      go_wp2_with fail
      go_loopg [8, 36] 0 (fun k v8 v36 w' => v8 = .int .i64 (t.length : Int) ∧ v36 = .int .i64 0 ∧ wr = w')
      case atStart => exact ⟨rfl, rfl, rfl⟩
      case round =>
        obtain ⟨rfl, rfl, rfl⟩ := hrel
        go_wp2_with fail
        go_region_with (
          go_at_call 200
          refine (HW.out (t ++ [10]) wr _ HWr.out ?_ (by have := hl; simp only [List.length_append, List.length_singleton]; omega)).mono ?_
          exact (Upd.refl _ _).drew
          rintro e w2 ⟨rfl, hW2, _⟩
          have d15 : w2.cell? ⟨tb, 15, none⟩ = some (.int .i64 0) := by obtain ⟨F2, _, _, hU2⟩ := hW2; exact (HK.out w2 hU2).2.2.1
          have HW2 := Lib.hid hW2
          clear hW2)
        all_goals
          go_wp2_with fail
          go_roundg 0
          case measure => omega
          case rel =>
            have h := HW2.out
            rw [List.append_nil] at h
            exact .inr (.inr ⟨rfl, rfl, rfl, h⟩)
    · have HWr := Lib.hid hW; clear hW
      go_wp2_with fail
      go_ret
      exact ⟨rfl, HWr.out⟩
end Go.Proofs.YtmdkpihlhdjjaaaGreatFmt

namespace Go.Proofs.YtmdkpihlhdjjaaaGreatFmt
open Go.RowKit

set_option maxRecDepth 100000 in
set_option maxHeartbeats 8000000 in
/-- writeLines of a line that holds text. -/
theorem tw_wl1n {S : Sink} (hs : S.Law Tryz.prog 561) (hok : ∀ c, S.okb c = true) {tb : Nat} {w : World} {G Fs : Nat → Prop} {inner t : List UInt8} {twd fg pos : Nat} {cw : Int} {ht : Bool} {x : TCell} (hx : x.n = t.length) (hne : t ≠ [])
    (h : TwAt S tb w G Fs inner t twd fg pos 0 cw ht 1 [x]) (hl : inner.length + t.length + 1 ≤ LIM) :
    Calls Tryz.prog 188 #[.pointer (some ⟨tb, 0, none⟩), .int .i64 0, .int .i64 0, .int .i64 1] w fun e w' => e = .returned (.int .i64 (t.length : Int)) ∧ WInv S Fs w inner t w' := by
  have hLIM : LIM = 1099511627776 := rfl
  obtain ⟨vb, vl, aw, cap, hb, hr, hvb, ⟨L, capL, cur, v0, rfl, hL, hcs, hnc, hc1, hcm, hGL, h0, ho0, hG0, hrest, h1⟩, hI, hFt, hGt, hGF, hGl, hfg⟩ := h
  obtain ⟨vT, vE, hsT, hsE, hrT, hrE⟩ := row_slices hr
  obtain ⟨g0, p0, rfl⟩ : ∃ g c, v0 = .slice (some ⟨g, 0, none⟩) 1 c := by
    rcases ho0.2 with ⟨h1, h2⟩ | ⟨g, cap, cur, h1, _, _, h2, _⟩
    · exact absurd h2 (by simp)
    · exact ⟨g, cap, h1⟩
  have hg0 : ∀ j u, [Value.int .i64 (x.n : Int), .int .i64 x.w, .bool x.h][j]? = some u → w.cell? ⟨g0, j, none⟩ = some u := fun j u hj => by
    have := ho0.cells rfl j u hj
    rwa [Addr.add_base] at this
  have hFL : ¬ Fs L := hGF L hGL
  have hFg : ¬ Fs g0 := hGF g0 (hG0 g0 rfl)
  have c0 : w.cell? ⟨tb, 0, none⟩ = some (.iface S.ty (.pointer (some S.ptr))) := cell_at hb 0
  have hk : ∀ W, Upd Fs w W → W.cell? ⟨tb, 12, none⟩ = some (.int .u64 (fg : Int)) ∧ W.cell? ⟨tb, 13, none⟩ = some vb ∧ W.cell? ⟨tb, 15, none⟩ = some (.int .i64 0) ∧ W.cell? ⟨tb, 19, none⟩ = some (.slice (some ⟨L, 0, none⟩) 1 capL) ∧ W.cell? ⟨tb, 20, none⟩ = some (.slice aw 0 cap) ∧
      W.cell? ⟨L, 0, none⟩ = some (.slice (some ⟨g0, 0, none⟩) 1 p0) ∧ W.cell? ⟨g0, 0, none⟩ = some (.int .i64 (t.length : Int)) ∧ W.cell? ⟨g0, 1, none⟩ = some (.int .i64 x.w) ∧ W.cell? ⟨g0, 2, none⟩ = some (.bool x.h) := fun W hu =>
    ⟨hu.cell (cell_at hb 12) hFt, hu.cell (cell_at hb 13) hFt, hu.cell (cell_at hb 15) hFt, hu.cell (cell_at hb 19) hFt, hu.cell (cell_at hb 20) hFt, hu.cell (by rw [cell_at hL]; exact h0) hFL, 
      hu.cell (hg0 0 _ (by rw [hx]; rfl)) hFg, hu.cell (hg0 1 _ rfl) hFg, hu.cell (hg0 2 _ rfl) hFg⟩
  obtain ⟨c12, c13, c15, c19, c20, cL0, cg0, cg1, cg2⟩ := hk w (Upd.refl _ _)
  have hw0 : WInv S Fs w inner [] w := ⟨Fs, by rwa [List.append_nil], fun k hk => .inl hk, Upd.refl _ _⟩
  have HW := Lib.hid (fun (out : List UInt8) (wr W : World) (hW : WInv S Fs w inner out wr) (hq : Upd (fun _ => False) wr W) (hl : inner.length + out.length ≤ LIM) => tw_write_fresh hs hok hFt c0 (v := vE) (d := []) hW hq (fun F _ => hrE W F) (by simpa using hl))
  have HT := Lib.hid (fun (W : World) (hq : Upd (fun _ => False) w W) => tw_write_fresh hs hok hFt c0 (w := w) (wr := w) (W := W) (v := vT) (d := t) (out := []) hw0 hq (fun F hF => hrT W F (hr.stable hq fun _ _ h => h) fun k hk hf => by
    have h := hF k hf
    rcases h.1 with h1 | h1
    · exact hGF k (hvb k hk) h1
    · exact absurd (hGl k (hvb k hk)) (by omega)) (by simp only [List.length_nil]; omega))
  have HK := Lib.hid hk
  have hsT0 : ∀ W : World, (Instr.slice 31 vb (some (.int .i64 0)) (some (.int .i64 (t.length : Int))) none).run Tryz.prog W = .ok vT W := hsT
  have hsE0 : ∀ W : World, (Instr.slice 31 vb (some (.int .i64 (t.length : Int))) (some (.int .i64 (t.length : Int))) none).run Tryz.prog W = .ok vE W := hsE
  have hpos : 0 < t.length := List.length_pos_iff.2 hne
  have hwn : IntKind.i64.wrap (t.length : Int) = (t.length : Int) := by rw [IntKind.wrap_i64]; omega
  have hwn0 : IntKind.i64.wrap (0 + (t.length : Int)) = (t.length : Int) := by rw [IntKind.wrap_i64]; omega
  have hwn1 : IntKind.i64.wrap ((t.length : Int) + 0) = (t.length : Int) := by rw [IntKind.wrap_i64]; omega
  have hnz : ¬ (t.length : Int) = 0 := by omega
  have hnz' : ((t.length : Int) == 0) = false := by rw [beq_eq_false_iff_ne]; exact hnz
  have hf4 : (bits BinOp.and IntKind.u64 (fg : Int) 4 == 0) = true := by rcases hfg with rfl | rfl <;> decide
  have hlT : (t.length : Int) ≤ 1099511627776 := by omega
  clear hk hsE hsT hrE hrT hb hr hvb hL hcs hnc hc1 hcm hGL h0 ho0 hG0 hrest hI hGt hGF hGl hw0 hfg h1 hg0 hFL hFg hx hne hpos
  go_enter Tryz.func188, Tryz.ntmps188
  go_wp2_with fail
  go_loopg [8, 9] 1 (fun k v8 v9 wr => (k = 1 ∧ v8 = .int .i64 0 ∧ v9 = .int .i64 0 ∧ w = wr) ∨ (k = 0 ∧ v8 = .int .i64 (t.length : Int) ∧ v9 = .int .i64 1 ∧ WInv S Fs w inner t wr))
  case atStart => exact .inl ⟨rfl, rfl, rfl, rfl⟩
  case round =>
    obtain ⟨rfl, rfl, rfl, rfl⟩ | ⟨rfl, rfl, rfl, hW⟩ := hrel
    · go_wp2_with fail
      go_loopg [8, 36] 1 (fun k v8 v36 wr => (k = 1 ∧ v8 = .int .i64 0 ∧ v36 = .int .i64 0 ∧ w = wr) ∨ (k = 0 ∧ v8 = .int .i64 (t.length : Int) ∧ v36 = .int .i64 1 ∧ WInv S Fs w inner t wr))
      case atStart => exact .inl ⟨rfl, rfl, rfl, rfl⟩
      case round =>
        obtain ⟨rfl, rfl, rfl, rfl⟩ | ⟨rfl, rfl, rfl, hW⟩ := hrel
        · have hnew : (w.alloc (.cells #[.int .i64 (t.length : Int), .int .i64 x.w, .bool x.h] 78)).heap[w.heap.size]? = some (.cells #[.int .i64 (t.length : Int), .int .i64 x.w, .bool x.h] 78 (0, 0)) := heap_alloc_new w _
          obtain ⟨e12, e13, e15, e19, e20, _⟩ := HK.out (w.alloc (.cells #[.int .i64 (t.length : Int), .int .i64 x.w, .bool x.h] 78)) ((Upd.refl _ w).alloc _)
          have en0 : (w.alloc (.cells #[.int .i64 (t.length : Int), .int .i64 x.w, .bool x.h] 78)).cell? ⟨w.heap.size, 0, none⟩ = some (.int .i64 (t.length : Int)) := cell_at hnew 0
          have HNew := Lib.hid hnew
          clear hnew
          go_wp2_with fail
          go_region_with (
            go_at_call 200
            refine (HT.out _ ?_).mono ?_
            exact ((Upd.refl _ w).alloc _).drew
            rintro e w2 ⟨rfl, hW2, hN2⟩
            have HN2 := Lib.hid ((hN2 w.heap.size (Nat.le_refl _) (by simp)).trans HNew.out)
            have n0 : w2.cell? ⟨w.heap.size, 0, none⟩ = some (.int .i64 (t.length : Int)) := cell_at HN2.out 0
            obtain ⟨k12, k13, k15, k19, k20, _⟩ := HK.out w2 (by obtain ⟨_, _, _, h⟩ := hW2; exact h)
            have HW2 := Lib.hid hW2
            clear hW2 hN2)
          all_goals
            go_wp2_with fail
            go_roundg 0
            case measure => omega
            case rel => exact .inr ⟨rfl, rfl, rfl, HW2.out⟩
        · clear c12 c13 c15 c19 c20 cL0 cg0 cg1 cg2
          obtain ⟨c12, c13, c15, c19, c20, cL0, cg0, cg1, cg2⟩ := HK.out wr (by obtain ⟨_, _, _, h⟩ := hW; exact h)
          have HWr := Lib.hid hW; clear hW
          go_wp2_with fail
          go_region_with (
            go_at_call 200
            refine (HW.out t wr _ HWr.out ?_ (by have := hl; omega)).mono ?_
            exact (Upd.refl _ _).drew
            rintro e w2 ⟨rfl, hW2, _⟩
            have d15 : w2.cell? ⟨tb, 15, none⟩ = some (.int .i64 0) := by obtain ⟨F2, _, _, hU2⟩ := hW2; exact (HK.out w2 hU2).2.2.1
            have HW2 := Lib.hid hW2
            clear hW2)
          all_goals
            go_wp2_with fail
            go_roundg 0
            case measure => omega
            case rel =>
              have h := HW2.out
              rw [List.append_nil] at h
              exact .inr ⟨rfl, rfl, rfl, h⟩
    · have HWr := Lib.hid hW; clear hW
      go_wp2_with fail
      go_ret
      exact ⟨rfl, HWr.out⟩
end Go.Proofs.YtmdkpihlhdjjaaaGreatFmt
