/-
  tabwriter.Writer: updateWidth (the width is some number: nothing here reads it).
  tabwriter.Writer: addLine(false), where the first line holds one cell.
  Slicing the collected text, whatever its slice is.
-/
import Derived.Test.YtmdkpihlhdjjaaaGreatFmtKMc
import Derived.Test.YtmdkpihlhdjjaaaGreatFmtKMaX
import Derived.Laws.RangeAny
import Derived.Laws.Runes
import Derived.LoopTactic
import Derived.Deep.RegionLaw
namespace Go.Proofs.YtmdkpihlhdjjaaaGreatFmt
open Go.RowKit

theorem Row.rd {w : World} {v : Value} {l : List UInt8} (h : Row w v l) (F : Nat → Prop) (hF : ∀ k, v.ownBlock = some k → ¬ F k) : SliceRd w F v l := by
  rcases h.2 with ⟨rfl, h0⟩ | ⟨g, cap, cur, rfl, h1, h2⟩
  · exact .inl ⟨rfl, List.length_eq_zero_iff.1 h0⟩
  · exact .inr ⟨⟨g, 0, none⟩, cap, rfl, fun _ => ⟨hF g rfl, h2.2.1⟩, fun j u hj => h.cells rfl j u hj⟩

theorem decode_pos (s : ByteArray) (p : Nat) (h : p < s.size) : 1 ≤ (Utf8.decode s p).2 := by
  by_cases ha : (s[p]'h).toNat < 128
  · rw [decode_ascii s p h ha]
    exact Nat.le_refl _
  · exact (decode_high s p h (by omega)).2

set_option maxRecDepth 100000 in
set_option maxHeartbeats 1000000 in
/-- The count of a string's runes: some number. -/
theorem rune_count_str (s : ByteArray) (w : World) : Calls Tryz.prog 212 #[.string s] w fun e w' => (∃ n : Int, e = .returned (.int .i64 n)) ∧ ∃ pos, w' = w.iter s pos := by
  go_enter Tryz.func212, Tryz.ntmps212
  go_wp2
  go_loopw [2] (fun n w' => ∃ (pos : Nat) (acc : Int), w' = w.iter s pos ∧ n = .int .i64 acc) (fun _ w' => s.size - w'.iterPos w.heap.size)
  case atStart => exact ⟨0, 0, rfl, rfl⟩
  case round =>
    obtain ⟨pos, acc, rfl, rfl⟩ := hrel
    by_cases hp : pos < s.size
    · have hnx : ∀ ty, (Instr.next (.pointer (some ⟨w.heap.size, 0, none⟩)) true ty).run Tryz.prog (w.iter s pos) = _ := fun ty => run_next_any w s pos ty hp
      have hwd := decode_pos s pos hp
      go_wp2
      go_roundw
      case rel => exact ⟨pos + (Utf8.decode s pos).2, _, rfl, rfl⟩
      case measure =>
        simp
        omega
    · have hnx : ∀ ty, (Instr.next (.pointer (some ⟨w.heap.size, 0, none⟩)) true ty).run Tryz.prog (w.iter s pos) = _ := fun ty => run_next_end w s pos ty hp
      go_wp2
      go_ret
      exact ⟨⟨_, rfl⟩, _, rfl⟩

theorem Addr.add_base (g n : Nat) : (Addr.mk g 0 none).add n = ⟨g, n, none⟩ := by rw [Addr.add_lit, Nat.zero_add]

set_option maxRecDepth 100000 in
set_option maxHeartbeats 1000000 in
theorem rune_count {w : World} {v : Value} {d : List UInt8} (hv : Row w v d) (hl : d.length ≤ LIM) :
    Calls Tryz.prog 199 #[v] w fun e w' => (∃ n : Int, e = .returned (.int .i64 n)) ∧ Upd (fun _ => False) w w' := by
  have hLIM : LIM = 1099511627776 := rfl
  rcases hv.2 with ⟨rfl, h0⟩ | ⟨g, cap, cur, rfl, _, hg, hnc, _, _, _⟩
  · obtain rfl := List.length_eq_zero_iff.1 h0
    clear h0
    go_enter Tryz.func199, Tryz.ntmps199
    go_wp2_with fail
    go_loopg [4] 0 (fun _ v4 wr => v4 = .int .i64 0 ∧ w = wr)
    case atStart => exact ⟨rfl, rfl⟩
    case round =>
      obtain ⟨rfl, rfl⟩ := hrel
      go_wp2
      go_ret
      exact ⟨⟨_, rfl⟩, Upd.refl _ _⟩
  · have hdl : (d.length : Int) ≤ 1099511627776 := by omega
    have HRd := Lib.hid (fun j u hj => hv.cells rfl j u hj : ∀ j u, (bv d)[j]? = some u → w.cell? ((Addr.mk g 0 none).add j) = some u)
    clear hv
    go_enter Tryz.func199, Tryz.ntmps199
    go_wp2_with fail
    go_loopg [4] d.length (fun k v4 wr => ∃ j : Nat, v4 = .int .i64 (j : Int) ∧ j + k = d.length ∧ w = wr)
    case atStart => exact ⟨0, rfl, by omega, rfl⟩
    case round =>
      obtain ⟨j, rfl, hjk, rfl⟩ := hrel
      have HJ := Lib.hid hjk; clear hjk
      by_cases hlt : j < d.length
      · have hc : w.cell? ⟨g, j, none⟩ = some (.int .u8 ((d[j]).toNat : Int)) := by rw [← Addr.add_base]; exact HRd.out j _ (by rw [bv_getElem?, List.getElem?_eq_getElem hlt]; rfl)
        have hltI : (j : Int) < (d.length : Int) := by omega
        by_cases h128 : (d[j]).toNat < 128
        · have h128I : ((d[j]).toNat : Int) < 128 := by omega
          go_wp2_with fail
          go_roundg (d.length - (j + 1))
          case measure => have := HJ.out; omega
          case rel => exact ⟨j + 1, by go_num, by omega, rfl⟩
        · have h128I : ¬ ((d[j]).toNat : Int) < 128 := by omega
          have hcv : (convert 31 9 (.slice (some ⟨g, j, none⟩) (d.length - j) (cap - j))).run Tryz.prog w = .ok (.string ⟨(d.drop j).toArray⟩) w := by
            have h := run_convert_bytes_back (P := Tryz.prog) w 31 9 5 ⟨g, j, none⟩ (cap - j) (d.drop j) Tryz.underlying31 Tryz.underlying5 Tryz.underlying9 (fun i hi => by
              rw [Addr.add_lit, ← Addr.add_base]
              exact HRd.out (j + i) _ (by rw [bv_getElem?, ← List.getElem?_drop, List.getElem?_eq_getElem hi]; rfl))
            rwa [List.length_drop] at h
          go_wp2_with (go_at_call 212; refine (rune_count_str _ _).mono ?_; rintro e w1 ⟨⟨n, rfl⟩, pos, rfl⟩)
          go_ret
          exact ⟨⟨_, rfl⟩, (Upd.refl _ w).alloc _⟩
      · have hjI : ¬ (j : Int) < (d.length : Int) := by omega
        go_wp2_with fail
        go_ret
        exact ⟨⟨_, rfl⟩, Upd.refl _ _⟩

set_option maxRecDepth 100000 in
set_option maxHeartbeats 2000000 in
theorem tw_updateWidth {S : Sink} (hs : S.Law Tryz.prog 561) {tb : Nat} {w : World} {G Fs : Nat → Prop} {inner t : List UInt8} {twd fg cs : Nat} {cw : Int} {ht : Bool} {nl : Nat} {c0 : List TCell}
    (h : TwAt S tb w G Fs inner t twd fg 0 cs cw ht nl c0) (hl : t.length ≤ LIM) :
    Calls Tryz.prog 187 #[.pointer (some ⟨tb, 0, none⟩)] w fun e w' => e = .returned (.tuple #[]) ∧ (∃ cw', TwAt S tb w' G Fs inner t twd fg t.length cs cw' ht nl c0) ∧ Upd (fun k => k = tb) w w' := by
  obtain ⟨vb, vl, aw, cap, hb, hr, hvb, hln, hI, hFt, hGt, hGF, hGl, hfg⟩ := h
  obtain ⟨vo, vc, rfl⟩ := hr.form
  have hle : t.length ≤ vc := by
    rcases hr.2 with ⟨h1, h0⟩ | ⟨g, cap, cur, h1, _, hg, hnc, hcm, hcs, htk⟩
    · injection h1 with _ h2 h3; omega
    · injection h1 with _ h2 h3; subst h3; exact hnc
  have c13 : w.cell? ⟨tb, 13, none⟩ = some (.slice vo t.length vc) := cell_at hb 13
  have c14 : w.cell? ⟨tb, 14, none⟩ = some (.int .i64 0) := cell_at hb 14
  have c16 : w.cell? ⟨tb, 16, none⟩ = some (.int .i64 cw) := cell_at hb 16
  have HRc := Lib.hid (fun (W : World) (hu : Upd (fun _ => False) w W) => rune_count (hr.stable hu fun _ _ h => h) hl)
  have hend : ∀ (w1 : World) (x : Int), Upd (fun _ => False) w.drew w1 → TwAt S tb ((w1.setCell ⟨tb, 16, none⟩ (.int .i64 x)).setCell ⟨tb, 14, none⟩ (.int .i64 (t.length : Int))) G Fs inner t twd fg t.length cs x ht nl c0 ∧
      Upd (fun k => k = tb) w ((w1.setCell ⟨tb, 16, none⟩ (.int .i64 x)).setCell ⟨tb, 14, none⟩ (.int .i64 (t.length : Int))) := fun w1 x hu => by
    have hu0 : Upd (fun _ => False) w w1 := (Upd.refl _ w).drew.trans hu
    have hu1 : Upd (fun k => k = tb) w ((w1.setCell ⟨tb, 16, none⟩ (.int .i64 x)).setCell ⟨tb, 14, none⟩ (.int .i64 (t.length : Int))) :=
      (Upd.setCell (F := fun k => k = tb) (Upd.setCell (F := fun k => k = tb) (hu0.mono fun _ h => h.elim) (p := ⟨tb, 16, none⟩) (.inl rfl) _) (p := ⟨tb, 14, none⟩) (.inl rfl) _)
    have hb1 := hu0.heap hb fun h => h
    refine ⟨TwAt.next hs (G' := G) hI hFt hGt hGF hfg (heap_lt hb) (hu1.mono fun k hk => .inl hk) (fun k hk => ⟨.inl hk, Nat.lt_of_lt_of_le (hGl k hk) hu1.size⟩) (aw := aw) (cap := cap) ?_ (hr.stable hu1 fun k hk e => hGt (e ▸ hvb k hk)) hvb (hln.stable hu1 (fun _ h => h) fun k cur t' hk hc => ?_), hu1⟩
    · refine (heap_setCell_at _ (heap_setCell_at _ hb1)).trans ?_
      simp [twCells]
    · subst hk
      have := cells_type hb hc
      subst this
      exact ⟨by decide, by decide⟩
  have HEnd := Lib.hid hend
  have HB := Lib.hid hb
  clear hend hb hr hln hI hvb hFt hGt hGF hGl hfg
  go_enter Tryz.func187, Tryz.ntmps187
  go_wp2_with fail
  go_region_with (
    go_at_call 199
    refine (HRc.out _ ?_).mono ?_
    first | exact (Upd.refl _ _).drew | exact Upd.refl _ _
    rintro e w1 ⟨⟨n, rfl⟩, hu1⟩
    have HB1 := Lib.hid (hu1.heap HB.out fun h => h)
    have d13 : w1.cell? ⟨tb, 13, none⟩ = some (.slice vo t.length vc) := cell_at HB1.out 13
    have d16 : w1.cell? ⟨tb, 16, none⟩ = some (.int .i64 cw) := cell_at HB1.out 16
    have e16 : w1.frozen? ⟨tb, 16, none⟩ = false := frozen_at HB1.out 16
    have d14 : w1.cell? ⟨tb, 14, none⟩ = some (.int .i64 0) := cell_at HB1.out 14
    have e14 : w1.frozen? ⟨tb, 14, none⟩ = false := frozen_at HB1.out 14
    have HU1 := Lib.hid hu1
    clear hu1)
  all_goals
    go_wp2
    go_end0
    exact ⟨rfl, ⟨_, (HEnd.out _ _ HU1.out).1⟩, (HEnd.out _ _ HU1.out).2⟩
end Go.Proofs.YtmdkpihlhdjjaaaGreatFmt

namespace Go.Proofs.YtmdkpihlhdjjaaaGreatFmt
open Go.RowKit

theorem mem_zeroCells {x v : Value} {n i : Nat} (h : (Builtin.zeroCells #[x] n)[i]? = some v) : v = x := by
  have := Array.mem_of_getElem? h
  simp [Builtin.zeroCells] at this
  obtain ⟨i, _, hv⟩ := this
  simpa [Nat.mod_one] using hv.symm

/-- The state behind addLine(false): the second line is there and empty. -/
theorem tw_line2 {P : Program} {fuel : Nat} {S : Sink} (hs : S.Law P fuel) {tb : Nat} {w W : World} {G Fs : Nat → Prop} {inner t : List UInt8} {twd fg pos cs : Nat} {cw : Int} {ht : Bool} {c0 : List TCell} {vb : Value} {aw : Option Addr} {cap L L' capL' : Nat} {cur' : Array Value} {v0 : Value} {a1 : Option Addr} {p1 : Nat}
    (hI : S.I w Fs inner) (hFt : ¬ Fs tb) (hGt : ¬ G tb) (hGF : ∀ k, G k → ¬ Fs k) (hfg : fg = 10 ∨ fg = 26) (htl : tb < w.heap.size) (hGl : ∀ k, G k → k < w.heap.size)
    (hr : Row w vb t) (hvb : ∀ k, vb.ownBlock = some k → G k) (ho0 : w.ownsRow 0 78 3 v0 c0.length (c0.flatMap TCell.vs)) (hG0 : ∀ k, v0.ownBlock = some k → G k) (hGL : G L) {curL : Array Value} (hL0 : w.heap[L]? = some (.cells curL 337 (0, 0)))
    (hu : Upd (fun k => k = tb ∨ k = L) w W) (hL' : L' = L ∨ w.heap.size ≤ L')
    (hb : W.heap[tb]? = some (.cells (twCells S twd fg vb pos cs cw ht (.slice (some ⟨L', 0, none⟩) 2 capL') (.slice aw 0 cap)) 82 (0, 0)))
    (hL : W.heap[L']? = some (.cells cur' 337 (0, 0))) (hsz : cur'.size = capL') (h2 : 2 ≤ capL') (hm : capL' ≤ maxLen) (h0 : cur'[0]? = some v0) (h1 : cur'[1]? = some (.slice a1 0 p1)) (hp1 : p1 ≤ maxLen)
    (hrest : ∀ j v, 2 ≤ j → cur'[j]? = some v → ∃ ao n c, v = .slice ao n c ∧ n ≤ c ∧ c ≤ maxLen) :
    ∃ G', TwAt S tb W G' Fs inner t twd fg pos cs cw ht 2 c0 ∧ (∀ k, G' k → G k ∨ w.heap.size ≤ k) ∧ Upd (fun k => k = tb ∨ G k) w W := by
  have hu1 : Upd (fun k => k = tb ∨ G k) w W := hu.mono fun k hk => hk.imp id fun e => by subst e; exact hGL
  have hnL : ∀ k, (k = tb ∨ k = L) → G k → vb.ownBlock = some k → False := fun k hk hg e => by
    rcases hk with rfl | rfl
    · exact hGt hg
    · obtain ⟨c, hc⟩ := hr.block e
      exact absurd (cells_type hc hL0) (by decide)
  refine ⟨fun k => G k ∨ k = L', TwAt.next hs (G := G) hI hFt hGt hGF hfg htl hu1 (fun k hk => ?_) (aw := aw) (cap := cap) hb
      (hr.stable hu fun k hk e => hnL k e (hvb k hk) hk) (fun k hk => .inl (hvb k hk)) ⟨L', capL', _, _, rfl, hL, hsz, h2, by omega, hm, .inr rfl, h0, own_stable ho0 hu fun k hk e => ?_, fun k hk => .inl (hG0 k hk), fun j v hj hv => ?_, fun _ => ⟨a1, p1, h1⟩⟩, fun k hk => ?_, hu1⟩
  · rcases hk with hk | rfl
    · exact ⟨.inl hk, Nat.lt_of_lt_of_le (hGl k hk) hu.size⟩
    · refine ⟨?_, heap_lt hL⟩
      rcases hL' with rfl | h
      · exact .inl hGL
      · exact .inr h
  · rcases e with rfl | rfl
    · exact hGt (hG0 _ hk)
    · obtain ⟨c, hc⟩ := own_block ho0 hk
      exact absurd (cells_type hc hL0) (by decide)
  · by_cases hj2 : 2 ≤ j
    · exact hrest j v hj2 hv
    · obtain rfl : j = 1 := by omega
      rw [h1] at hv
      exact ⟨a1, 0, p1, (Option.some.inj hv).symm, Nat.zero_le _, hp1⟩
  · rcases hk with hk | rfl
    · exact .inl hk
    · rcases hL' with rfl | h
      · exact .inl hGL
      · exact .inr h

set_option maxRecDepth 100000 in
set_option maxHeartbeats 4000000 in
/-- addLine(false) where one line is in use. -/
theorem tw_addLine1 {S : Sink} (hs : S.Law Tryz.prog 561) {tb : Nat} {w : World} {G Fs : Nat → Prop} {inner t : List UInt8} {twd fg pos cs : Nat} {cw : Int} {ht : Bool} {x : TCell}
    (h : TwAt S tb w G Fs inner t twd fg pos cs cw ht 1 [x]) :
    Calls Tryz.prog 128 #[.pointer (some ⟨tb, 0, none⟩), .bool false] w fun e w' => e = .returned (.tuple #[]) ∧ ∃ G', TwAt S tb w' G' Fs inner t twd fg pos cs cw ht 2 [x] ∧ (∀ k, G' k → G k ∨ w.heap.size ≤ k) ∧ Upd (fun k => k = tb ∨ G k) w w' := by
  obtain ⟨vb, vl, aw, cap, hb, hr, hvb, ⟨L, capL, cur, v0, rfl, hL, hcs, hnc, hc1, hcm, hGL, h0, ho0, hG0, hrest, _⟩, hI, hFt, hGt, hGF, hGl, hfg⟩ := h
  obtain ⟨a0, p0, hv0, hle0⟩ : ∃ ao c, v0 = .slice ao 1 c ∧ 1 ≤ c := by
    rcases ho0.2 with ⟨h1, h2⟩ | ⟨g, cap, cur, h1, _, _, h2, _⟩
    · exact absurd h2 (by simp)
    · exact ⟨_, _, h1, h2⟩
  subst hv0
  have htL : ¬ tb = L := fun e => hGt (e ▸ hGL)
  have hLt : ¬ L = tb := fun e => htL e.symm
  have c19 : w.cell? ⟨tb, 19, none⟩ = some (.slice (some ⟨L, 0, none⟩) 1 capL) := cell_at hb 19
  have f19 : w.frozen? ⟨tb, 19, none⟩ = false := frozen_at hb 19
  have cL0 : w.cell? ⟨L, 0, none⟩ = some (.slice a0 1 p0) := by rw [cell_at hL]; exact h0
  have fL1 : w.frozen? ⟨L, 1, none⟩ = false := frozen_at hL 1
  have hmk : ∀ W : World, ∃ cur : Array Value, (Instr.makeSlice 337 (.int .i64 0) (.int .i64 1)).run Tryz.prog W = .ok (.slice (some ⟨W.heap.size, 0, none⟩) 0 1) (W.alloc (.cells cur 78)) := fun W => by
    obtain ⟨i, hi, hz, hsz, hby⟩ : ∃ i, Tryz.prog.info? 78 = some i ∧ i.zero = some (.agg #[.int .i64 0, .int .i64 0, .bool false]) ∧ i.size = 3 ∧ i.bytes = 24 := ⟨_, rfl, rfl, rfl, rfl⟩
    exact ⟨_, run_make W 337 78 i _ Tryz.underlying337 hi hz .i64 .i64 0 1 (by decide) (by decide) (by rw [hby]; decide) (by decide)⟩
  by_cases hc2 : 2 ≤ capL
  · -- there is room for a line
    obtain ⟨v1, hv1⟩ : ∃ v, cur[1]? = some v := ⟨_, Array.getElem?_eq_getElem (by omega)⟩
    obtain ⟨a1, n1, p1, rfl, hn1, hp1⟩ := hrest 1 v1 (Nat.le_refl _) hv1
    have cL1 : w.cell? ⟨L, 1, none⟩ = some (.slice a1 n1 p1) := by rw [cell_at hL]; exact hv1
    have hc2I : (2 : Int) ≤ (capL : Int) := by omega
    by_cases hp : 1 ≤ p1
    · have hpI : ¬ (p1 : Int) < 1 := by omega
      have hend : ∃ G', TwAt S tb ((w.setCell ⟨tb, 19, none⟩ (.slice (some ⟨L, 0, none⟩) 2 capL)).setCell ⟨L, 1, none⟩ (.slice a1 0 p1)).drew G' Fs inner t twd fg pos cs cw ht 2 [x] ∧ (∀ k, G' k → G k ∨ w.heap.size ≤ k) ∧
          Upd (fun k => k = tb ∨ G k) w ((w.setCell ⟨tb, 19, none⟩ (.slice (some ⟨L, 0, none⟩) 2 capL)).setCell ⟨L, 1, none⟩ (.slice a1 0 p1)).drew := by
        refine tw_line2 hs hI hFt hGt hGF hfg (heap_lt hb) hGl hr hvb ho0 hG0 hGL hL (cap := cap) (aw := aw) (a1 := a1) (p1 := p1) (L' := L) (capL' := capL) (cur' := cur.setIfInBounds 1 (.slice a1 0 p1))
          (Upd.drew (Upd.setCell (F := fun k => k = tb ∨ k = L) (Upd.setCell (F := fun k => k = tb ∨ k = L) (Upd.refl _ w) (p := ⟨tb, 19, none⟩) (.inl (.inl rfl)) _) (p := ⟨L, 1, none⟩) (.inl (.inr rfl)) _)) (.inl rfl) ?_ ?_ (by simpa using hcs) hc2 hcm ?_ ?_ hp1 fun j v hj hv => ?_
        · refine (Below.heap_setCell _ _ _ _ htL).trans ((heap_setCell_at _ hb).trans ?_)
          simp [twCells]
        · exact heap_setCell_at _ ((Below.heap_setCell _ _ _ _ hLt).trans hL)
        · rw [Array.getElem?_setIfInBounds_ne (by omega)]; exact h0
        · rw [Array.getElem?_setIfInBounds_self, if_pos (by omega)]
        · rw [Array.getElem?_setIfInBounds_ne (by omega)] at hv
          exact hrest j v (by omega) hv
      have HEnd := Lib.hid hend
      clear hend hb hL hr hvb hcs hnc hcm hGL h0 ho0 hG0 hrest hI hFt hGt hGF hGl hfg hv1 hmk
      go_enter Tryz.func128, Tryz.ntmps128
      go_wp2_with fail
      go_region
      go_wp2
      go_end0
      exact ⟨rfl, HEnd.out⟩
    · obtain rfl : p1 = 0 := by omega
      obtain rfl : n1 = 0 := by omega
      obtain ⟨curN, hmkN⟩ := hmk ((w.setCell ⟨tb, 19, none⟩ (.slice (some ⟨L, 0, none⟩) 2 capL)).setCell ⟨L, 1, none⟩ (.slice a1 0 0)).drew.drew
      rw [show ((w.setCell ⟨tb, 19, none⟩ (.slice (some ⟨L, 0, none⟩) 2 capL)).setCell ⟨L, 1, none⟩ (.slice a1 0 0)).drew.drew.heap.size = w.heap.size by simp] at hmkN
      have hU : Upd (fun k => k = tb ∨ k = L) w ((((w.setCell ⟨tb, 19, none⟩ (.slice (some ⟨L, 0, none⟩) 2 capL)).setCell ⟨L, 1, none⟩ (.slice a1 0 0)).alloc (.cells curN 78)).drew.drew) :=
        (((Upd.setCell (F := fun k => k = tb ∨ k = L) (Upd.setCell (F := fun k => k = tb ∨ k = L) (Upd.refl _ w) (p := ⟨tb, 19, none⟩) (.inl (.inl rfl)) _) (p := ⟨L, 1, none⟩) (.inl (.inr rfl)) _).alloc _).drew).drew
      have hbN : ((((w.setCell ⟨tb, 19, none⟩ (.slice (some ⟨L, 0, none⟩) 2 capL)).setCell ⟨L, 1, none⟩ (.slice a1 0 0)).alloc (.cells curN 78)).drew.drew).heap[tb]? = some (.cells (twCells S twd fg vb pos cs cw ht (.slice (some ⟨L, 0, none⟩) 2 capL) (.slice aw 0 cap)) 82 (0, 0)) := by
        refine (Below.heap_alloc _ _ _ (by simpa using heap_lt hb)).trans ((Below.heap_setCell _ _ _ _ htL).trans ((heap_setCell_at _ hb).trans ?_))
        simp [twCells]
      have hLN : ((((w.setCell ⟨tb, 19, none⟩ (.slice (some ⟨L, 0, none⟩) 2 capL)).setCell ⟨L, 1, none⟩ (.slice a1 0 0)).alloc (.cells curN 78)).drew.drew).heap[L]? = some (.cells (cur.setIfInBounds 1 (.slice a1 0 0)) 337 (0, 0)) :=
        (Below.heap_alloc _ _ _ (by simpa using heap_lt hL)).trans (heap_setCell_at _ ((Below.heap_setCell _ _ _ _ hLt).trans hL))
      have b19 : ((((w.setCell ⟨tb, 19, none⟩ (.slice (some ⟨L, 0, none⟩) 2 capL)).setCell ⟨L, 1, none⟩ (.slice a1 0 0)).alloc (.cells curN 78)).drew.drew).cell? ⟨tb, 19, none⟩ = some (.slice (some ⟨L, 0, none⟩) 2 capL) := cell_at hbN 19
      have bL1 : ((((w.setCell ⟨tb, 19, none⟩ (.slice (some ⟨L, 0, none⟩) 2 capL)).setCell ⟨L, 1, none⟩ (.slice a1 0 0)).alloc (.cells curN 78)).drew.drew).cell? ⟨L, 1, none⟩ = some (.slice a1 0 0) := by rw [cell_at hLN, Array.getElem?_setIfInBounds_self, if_pos (by omega)]
      have gL1 : ((((w.setCell ⟨tb, 19, none⟩ (.slice (some ⟨L, 0, none⟩) 2 capL)).setCell ⟨L, 1, none⟩ (.slice a1 0 0)).alloc (.cells curN 78)).drew.drew).frozen? ⟨L, 1, none⟩ = false := frozen_at hLN 1
      have hend : ∃ G', TwAt S tb (((((w.setCell ⟨tb, 19, none⟩ (.slice (some ⟨L, 0, none⟩) 2 capL)).setCell ⟨L, 1, none⟩ (.slice a1 0 0)).alloc (.cells curN 78)).drew.drew).setCell ⟨L, 1, none⟩ (.slice (some ⟨w.heap.size, 0, none⟩) 0 1)) G' Fs inner t twd fg pos cs cw ht 2 [x] ∧ (∀ k, G' k → G k ∨ w.heap.size ≤ k) ∧
          Upd (fun k => k = tb ∨ G k) w (((((w.setCell ⟨tb, 19, none⟩ (.slice (some ⟨L, 0, none⟩) 2 capL)).setCell ⟨L, 1, none⟩ (.slice a1 0 0)).alloc (.cells curN 78)).drew.drew).setCell ⟨L, 1, none⟩ (.slice (some ⟨w.heap.size, 0, none⟩) 0 1)) := by
        refine tw_line2 hs hI hFt hGt hGF hfg (heap_lt hb) hGl hr hvb ho0 hG0 hGL hL (cap := cap) (aw := aw) (a1 := some ⟨w.heap.size, 0, none⟩) (p1 := 1) (L' := L) (capL' := capL) (cur' := (cur.setIfInBounds 1 (.slice a1 0 0)).setIfInBounds 1 (.slice (some ⟨w.heap.size, 0, none⟩) 0 1))
          (Upd.setCell (F := fun k => k = tb ∨ k = L) hU (p := ⟨L, 1, none⟩) (.inl (.inr rfl)) _) (.inl rfl) ?_ ?_ (by simpa using hcs) hc2 hcm ?_ ?_ (by decide) fun j v hj hv => ?_
        · exact (Below.heap_setCell _ _ _ _ htL).trans hbN
        · exact heap_setCell_at _ hLN
        · rw [Array.getElem?_setIfInBounds_ne (by omega), Array.getElem?_setIfInBounds_ne (by omega)]; exact h0
        · rw [Array.getElem?_setIfInBounds_self, if_pos (by simp; omega)]
        · rw [Array.getElem?_setIfInBounds_ne (by omega), Array.getElem?_setIfInBounds_ne (by omega)] at hv
          exact hrest j v (by omega) hv
      have HEnd := Lib.hid hend
      clear hend hbN hLN hU hb hL hr hvb hcs hnc hcm hGL h0 ho0 hG0 hrest hI hFt hGt hGF hGl hfg hv1 hmk
      go_enter Tryz.func128, Tryz.ntmps128
      go_wp2_with fail
      go_region
      go_wp2_with fail
      go_region
      all_goals go_wp2_with fail
      all_goals go_end0
      all_goals exact ⟨rfl, HEnd.out⟩
  · obtain rfl : capL = 1 := by omega
    -- the row of lines grows
    obtain ⟨i, hi, hz, hsz, hby⟩ : ∃ i, Tryz.prog.info? 337 = some i ∧ i.zero = some (.slice none 0 0) ∧ i.size = 1 ∧ i.bytes = 24 := ⟨_, rfl, rfl, rfl, rfl⟩
    have hcur : cur.toList = [.slice a0 1 p0] := by
      have h1 : cur.toList.length = 1 := by simpa using hcs
      obtain ⟨a, ha⟩ := List.length_eq_one_iff.1 h1
      have h2 : cur.toList[0]? = some (.slice a0 1 p0) := by simpa using h0
      rw [ha] at h2 ⊢
      simpa using h2
    have hA : Upd (fun _ => False) w (w.alloc (.cells #[.slice none 0 0] 337)) := (Upd.refl _ w).alloc _
    have hNew : (w.alloc (.cells #[.slice none 0 0] 337)).heap[w.heap.size]? = some (.cells #[.slice none 0 0] 337 (0, 0)) := heap_alloc_new w _
    have hLA : (w.alloc (.cells #[.slice none 0 0] 337)).heap[L]? = some (.cells cur 337 (0, 0)) := (Below.heap_alloc _ _ _ (heap_lt hL)).trans hL
    have hgr := run_append_grow (P := Tryz.prog) (w.alloc (.cells #[.slice none 0 0] 337)) 79 79 337 i (.slice none 0 0) Tryz.underlying79 hi hz ⟨L, 0, none⟩ 1 1 [.slice a0 1 p0] (by rw [hsz]; rfl)
      (fun j u hj => by rw [Addr.add_lit, cell_at hLA, Nat.zero_add, ← Array.getElem?_toList, hcur]; exact hj) ⟨w.heap.size, 0, none⟩ 1 1 [.slice none 0 0] (by rw [hsz]; rfl)
      (fun j u hj => by rw [Addr.add_lit, cell_at hNew, Nat.zero_add]; simpa using hj) (by omega) (by decide) (by rw [hby]; exact growslice_fits (by omega) (by decide))
    generalize hcap : grownCap (w.alloc (.cells #[.slice none 0 0] 337)) (1 + 1) 1 337 = cap2 at hgr
    have hge : 2 ≤ cap2 := by rw [← hcap]; exact grownCap_ge _ _ _ _
    have hle : cap2 ≤ maxLen := by rw [← hcap]; exact grownCap_le_maxLen _ _ _ _ (by decide)
    obtain ⟨w1, N, cur2, hr1, hN1, hNge, hU1, hcs2, h20, h21, h2r⟩ : ∃ (w1 : World) (N : Nat) (cur2 : Array Value), (Builtin.append_ #[79, 79] 79 #[.slice (some ⟨L, 0, none⟩) 1 1, .slice (some ⟨w.heap.size, 0, none⟩) 1 1]).run Tryz.prog (w.alloc (.cells #[.slice none 0 0] 337)) = .ok (.slice (some ⟨N, 0, none⟩) 2 cap2) w1 ∧
        w1.heap[N]? = some (.cells cur2 337 (0, 0)) ∧ w.heap.size ≤ N ∧ Upd (fun _ => False) w w1 ∧ cur2.size = cap2 ∧ cur2[0]? = some (.slice a0 1 p0) ∧ cur2[1]? = some (.slice none 0 0) ∧ (∀ j v, 2 ≤ j → cur2[j]? = some v → v = .slice none 0 0) := by
      refine ⟨_, _, _, hgr, heap_alloc_new _ _, by simp, (hA.drew).alloc _, ?_, by rw [Array.getElem?_append_left (by simp)]; rfl, by rw [Array.getElem?_append_left (by simp)]; rfl, fun j v hj hv => ?_⟩
      · simp [size_zeroCells, Value.cells]; omega
      · rw [Array.getElem?_append_right (by simpa using hj)] at hv
        exact mem_zeroCells (x := .slice none 0 0) hv
    clear hgr hcap hNew hLA hA hcur hi hz hsz hby
    have htN : ¬ tb = N := fun e => by have := heap_lt hb; omega
    have hNt : ¬ N = tb := fun e => htN e.symm
    have hb1 := hU1.heap hb fun h => h
    have c191 : w1.cell? ⟨tb, 19, none⟩ = some (.slice (some ⟨L, 0, none⟩) 1 1) := cell_at hb1 19
    have f191 : w1.frozen? ⟨tb, 19, none⟩ = false := frozen_at hb1 19
    have n0 : w1.cell? ⟨N, 0, none⟩ = some (.slice a0 1 p0) := by rw [cell_at hN1]; exact h20
    have n1 : w1.cell? ⟨N, 1, none⟩ = some (.slice none 0 0) := by rw [cell_at hN1]; exact h21
    have g1 : w1.frozen? ⟨N, 1, none⟩ = false := frozen_at hN1 1
    obtain ⟨curN, hmkN⟩ := hmk (w1.setCell ⟨tb, 19, none⟩ (.slice (some ⟨N, 0, none⟩) 2 cap2)).drew
    rw [show (w1.setCell ⟨tb, 19, none⟩ (.slice (some ⟨N, 0, none⟩) 2 cap2)).drew.heap.size = w1.heap.size by simp] at hmkN
    have hUN : Upd (fun k => k = tb ∨ k = L) w (((w1.setCell ⟨tb, 19, none⟩ (.slice (some ⟨N, 0, none⟩) 2 cap2)).alloc (.cells curN 78)).drew) :=
      ((Upd.setCell (F := fun k => k = tb ∨ k = L) (hU1.mono fun _ h => h.elim) (p := ⟨tb, 19, none⟩) (.inl (.inl rfl)) _).alloc _).drew
    have hbN : (((w1.setCell ⟨tb, 19, none⟩ (.slice (some ⟨N, 0, none⟩) 2 cap2)).alloc (.cells curN 78)).drew).heap[tb]? = some (.cells (twCells S twd fg vb pos cs cw ht (.slice (some ⟨N, 0, none⟩) 2 cap2) (.slice aw 0 cap)) 82 (0, 0)) := by
      refine (Below.heap_alloc _ _ _ (by simpa using heap_lt hb1)).trans ((heap_setCell_at _ hb1).trans ?_)
      simp [twCells]
    have hNN : (((w1.setCell ⟨tb, 19, none⟩ (.slice (some ⟨N, 0, none⟩) 2 cap2)).alloc (.cells curN 78)).drew).heap[N]? = some (.cells cur2 337 (0, 0)) :=
      (Below.heap_alloc _ _ _ (by simpa using heap_lt hN1)).trans ((Below.heap_setCell _ _ _ _ hNt).trans hN1)
    have b19 : (((w1.setCell ⟨tb, 19, none⟩ (.slice (some ⟨N, 0, none⟩) 2 cap2)).alloc (.cells curN 78)).drew).cell? ⟨tb, 19, none⟩ = some (.slice (some ⟨N, 0, none⟩) 2 cap2) := cell_at hbN 19
    have bL1 : (((w1.setCell ⟨tb, 19, none⟩ (.slice (some ⟨N, 0, none⟩) 2 cap2)).alloc (.cells curN 78)).drew).cell? ⟨N, 1, none⟩ = some (.slice none 0 0) := by rw [cell_at hNN]; exact h21
    have gL1 : (((w1.setCell ⟨tb, 19, none⟩ (.slice (some ⟨N, 0, none⟩) 2 cap2)).alloc (.cells curN 78)).drew).frozen? ⟨N, 1, none⟩ = false := frozen_at hNN 1
    have hend : ∃ G', TwAt S tb ((((w1.setCell ⟨tb, 19, none⟩ (.slice (some ⟨N, 0, none⟩) 2 cap2)).alloc (.cells curN 78)).drew).setCell ⟨N, 1, none⟩ (.slice (some ⟨w1.heap.size, 0, none⟩) 0 1)) G' Fs inner t twd fg pos cs cw ht 2 [x] ∧ (∀ k, G' k → G k ∨ w.heap.size ≤ k) ∧
        Upd (fun k => k = tb ∨ G k) w ((((w1.setCell ⟨tb, 19, none⟩ (.slice (some ⟨N, 0, none⟩) 2 cap2)).alloc (.cells curN 78)).drew).setCell ⟨N, 1, none⟩ (.slice (some ⟨w1.heap.size, 0, none⟩) 0 1)) := by
      refine tw_line2 hs hI hFt hGt hGF hfg (heap_lt hb) hGl hr hvb ho0 hG0 hGL hL (cap := cap) (aw := aw) (a1 := some ⟨w1.heap.size, 0, none⟩) (p1 := 1) (L' := N) (capL' := cap2) (cur' := cur2.setIfInBounds 1 (.slice (some ⟨w1.heap.size, 0, none⟩) 0 1))
        (Upd.setCell (F := fun k => k = tb ∨ k = L) hUN (p := ⟨N, 1, none⟩) (.inr hNge) _) (.inr hNge) ?_ ?_ (by simpa using hcs2) hge hle ?_ ?_ (by decide) fun j v hj hv => ?_
      · exact (Below.heap_setCell _ _ _ _ htN).trans hbN
      · exact heap_setCell_at _ hNN
      · rw [Array.getElem?_setIfInBounds_ne (by omega)]; exact h20
      · rw [Array.getElem?_setIfInBounds_self, if_pos (by omega)]
      · rw [Array.getElem?_setIfInBounds_ne (by omega)] at hv
        exact ⟨none, 0, 0, h2r j v hj hv, Nat.le_refl _, by decide⟩
    have HEnd := Lib.hid hend
    have HR1 := Lib.hid hr1
    clear hend hr1 hbN hNN hUN hb1 hU1 hN1 hb hL hr hvb hcs hnc hcm hGL h0 ho0 hG0 hrest hI hFt hGt hGF hGl hfg hmk hcs2 h20 h21 h2r hge hle
    go_enter Tryz.func128, Tryz.ntmps128
    go_wp2_with (at_builtin; refine wpList_append_run rfl _ _ _ rfl rfl rfl HR1.out ?_)
    go_region
    all_goals go_wp2_with fail
    all_goals go_end0
    all_goals exact ⟨rfl, HEnd.out⟩
end Go.Proofs.YtmdkpihlhdjjaaaGreatFmt

namespace Go.Proofs.YtmdkpihlhdjjaaaGreatFmt
open Go.RowKit

theorem sliceRd_empty {w : World} {F : Nat → Prop} {ao : Option Addr} {c : Nat} (h : ao = none → c = 0) : SliceRd w F (.slice ao 0 c) [] := by
  cases ao with
  | none => rw [h rfl]; exact .inl ⟨rfl, rfl⟩
  | some a => exact .inr ⟨a, c, rfl, fun h => absurd rfl h, fun j u hj => by simp at hj⟩

/-- The slices [0:n] and [n:n] of a text of n bytes. -/
theorem row_slices {w : World} {vb : Value} {t : List UInt8} (h : Row w vb t) : ∃ vT vE, (∀ W : World, (Instr.slice 31 vb (some (.int .i64 0)) (some (.int .i64 (t.length : Int))) none).run Tryz.prog W = .ok vT W) ∧
    (∀ W : World, (Instr.slice 31 vb (some (.int .i64 (t.length : Int))) (some (.int .i64 (t.length : Int))) none).run Tryz.prog W = .ok vE W) ∧
    (∀ (W : World) (F : Nat → Prop), Row W vb t → (∀ k, vb.ownBlock = some k → ¬ F k) → SliceRd W F vT t) ∧ (∀ (W : World) (F : Nat → Prop), SliceRd W F vE []) := by
  have hT := Tryz.underlying31
  rcases h.2 with ⟨rfl, h0⟩ | ⟨g, cap, cur, rfl, _, hg, hnc, hcm, _, _⟩
  · obtain rfl := List.length_eq_zero_iff.1 h0
    refine ⟨.slice none 0 0, .slice none 0 0, fun W => ?_, fun W => ?_, fun W F hr hF => .inl ⟨rfl, rfl⟩, fun W F => .inl ⟨rfl, rfl⟩⟩
    · simp [Instr.slice, run_underlying hT, go_sem]
    · simp [Instr.slice, run_underlying hT, go_sem]
  · have h1 : (t.length : Int) ≤ (cap : Int) := by omega
    have h2 : (0 : Int) ≤ (t.length : Int) := by omega
    refine ⟨.slice (some ⟨g, 0, none⟩) t.length cap, .slice (some (if cap = t.length then ⟨g, 0, none⟩ else ⟨g, t.length, none⟩)) 0 (cap - t.length), fun W => ?_, fun W => ?_, fun W F hr hF => ?_, fun W F => sliceRd_empty (fun h => by cases h)⟩
    · simp [Instr.slice, run_underlying hT, go_sem, h1, h2]
    · simp [Instr.slice, run_underlying hT, go_sem, h1, h2]
      split <;> rfl
    · exact hr.rd F hF
end Go.Proofs.YtmdkpihlhdjjaaaGreatFmt
