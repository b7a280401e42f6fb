/-
  tabwriter.Writer: updateWidth (the width is some number: nothing here reads it).
-/
import Derived.Test.YtnhmgjgdkcgmfaaGreatFmtMc
import Derived.Test.YtnhmgjgdkcgmfaaGreatFmtMa
import Derived.Laws.RangeAny
import Derived.Laws.Runes
import Derived.LoopTactic
namespace Go.Proofs.YtnhmgjgdkcgmfaaGreatFmt
open Go.RowKit

theorem Row.rd {w : World} {v : Value} {l : List UInt8} (h : Row w v l) (F : Nat → Prop) (hF : ∀ k, v.ownBlock = some k → ¬ F k) : SliceRd w F v l := by
  rcases h.2 with ⟨rfl, h0⟩ | ⟨g, cap, cur, rfl, h1, h2⟩
  · exact .inl ⟨rfl, List.length_eq_zero_iff.1 h0⟩
  · exact .inr ⟨⟨g, 0, none⟩, cap, rfl, fun _ => ⟨hF g rfl, h2.2.1⟩, fun j u hj => h.cells rfl j u hj⟩

theorem decode_pos (s : ByteArray) (p : Nat) (h : p < s.size) : 1 ≤ (Utf8.decode s p).2 := by
  by_cases ha : (s[p]'h).toNat < 128
  · rw [decode_ascii s p h ha]
    exact Nat.le_refl _
  · exact (decode_high s p h (by omega)).2

set_option maxRecDepth 100000 in
set_option maxHeartbeats 1000000 in
/-- The count of a string's runes: some number. -/
theorem rune_count_str (s : ByteArray) (w : World) : Calls Tryz.prog 191 #[.string s] w fun e w' => (∃ n : Int, e = .returned (.int .i64 n)) ∧ ∃ pos, w' = w.iter s pos := by
  go_enter Tryz.func191, Tryz.ntmps191
  go_wp2
  go_loopw [2] (fun n w' => ∃ (pos : Nat) (acc : Int), w' = w.iter s pos ∧ n = .int .i64 acc) (fun _ w' => s.size - w'.iterPos w.heap.size)
  case atStart => exact ⟨0, 0, rfl, rfl⟩
  case round =>
    obtain ⟨pos, acc, rfl, rfl⟩ := hrel
    by_cases hp : pos < s.size
    · have hnx : ∀ ty, (Instr.next (.pointer (some ⟨w.heap.size, 0, none⟩)) true ty).run Tryz.prog (w.iter s pos) = _ := fun ty => run_next_any w s pos ty hp
      have hwd := decode_pos s pos hp
      go_wp2
      go_roundw
      case rel => exact ⟨pos + (Utf8.decode s pos).2, _, rfl, rfl⟩
      case measure =>
        simp
        omega
    · have hnx : ∀ ty, (Instr.next (.pointer (some ⟨w.heap.size, 0, none⟩)) true ty).run Tryz.prog (w.iter s pos) = _ := fun ty => run_next_end w s pos ty hp
      go_wp2
      go_ret
      exact ⟨⟨_, rfl⟩, _, rfl⟩

theorem Addr.add_base (g n : Nat) : (Addr.mk g 0 none).add n = ⟨g, n, none⟩ := by rw [Addr.add_lit, Nat.zero_add]

set_option maxRecDepth 100000 in
set_option maxHeartbeats 1000000 in
theorem rune_count {w : World} {v : Value} {d : List UInt8} (hv : Row w v d) (hl : d.length ≤ LIM) :
    Calls Tryz.prog 178 #[v] w fun e w' => (∃ n : Int, e = .returned (.int .i64 n)) ∧ Upd (fun _ => False) w w' := by
  have hLIM : LIM = 1099511627776 := rfl
  rcases hv.2 with ⟨rfl, h0⟩ | ⟨g, cap, cur, rfl, _, hg, hnc, _, _, _⟩
  · obtain rfl := List.length_eq_zero_iff.1 h0
    clear h0
    go_enter Tryz.func178, Tryz.ntmps178
    go_wp2_with fail
    go_loopg [4] 0 (fun _ v4 wr => v4 = .int .i64 0 ∧ w = wr)
    case atStart => exact ⟨rfl, rfl⟩
    case round =>
      obtain ⟨rfl, rfl⟩ := hrel
      go_wp2
      go_ret
      exact ⟨⟨_, rfl⟩, Upd.refl _ _⟩
  · have hdl : (d.length : Int) ≤ 1099511627776 := by omega
    have HRd := Lib.hid (fun j u hj => hv.cells rfl j u hj : ∀ j u, (bv d)[j]? = some u → w.cell? ((Addr.mk g 0 none).add j) = some u)
    clear hv
    go_enter Tryz.func178, Tryz.ntmps178
    go_wp2_with fail
    go_loopg [4] d.length (fun k v4 wr => ∃ j : Nat, v4 = .int .i64 (j : Int) ∧ j + k = d.length ∧ w = wr)
    case atStart => exact ⟨0, rfl, by omega, rfl⟩
    case round =>
      obtain ⟨j, rfl, hjk, rfl⟩ := hrel
      have HJ := Lib.hid hjk; clear hjk
      by_cases hlt : j < d.length
      · have hc : w.cell? ⟨g, j, none⟩ = some (.int .u8 ((d[j]).toNat : Int)) := by rw [← Addr.add_base]; exact HRd.out j _ (by rw [bv_getElem?, List.getElem?_eq_getElem hlt]; rfl)
        have hltI : (j : Int) < (d.length : Int) := by omega
        by_cases h128 : (d[j]).toNat < 128
        · have h128I : ((d[j]).toNat : Int) < 128 := by omega
          go_wp2_with fail
          go_roundg (d.length - (j + 1))
          case measure => have := HJ.out; omega
          case rel => exact ⟨j + 1, by go_num, by omega, rfl⟩
        · have h128I : ¬ ((d[j]).toNat : Int) < 128 := by omega
          have hcv : (convert 33 9 (.slice (some ⟨g, j, none⟩) (d.length - j) (cap - j))).run Tryz.prog w = .ok (.string ⟨(d.drop j).toArray⟩) w := by
            have h := run_convert_bytes_back (P := Tryz.prog) w 33 9 5 ⟨g, j, none⟩ (cap - j) (d.drop j) Tryz.underlying33 Tryz.underlying5 Tryz.underlying9 (fun i hi => by
              rw [Addr.add_lit, ← Addr.add_base]
              exact HRd.out (j + i) _ (by rw [bv_getElem?, ← List.getElem?_drop, List.getElem?_eq_getElem hi]; rfl))
            rwa [List.length_drop] at h
          go_wp2_with (go_at_call 191; refine (rune_count_str _ _).mono ?_; rintro e w1 ⟨⟨n, rfl⟩, pos, rfl⟩)
          go_ret
          exact ⟨⟨_, rfl⟩, (Upd.refl _ w).alloc _⟩
      · have hjI : ¬ (j : Int) < (d.length : Int) := by omega
        go_wp2_with fail
        go_ret
        exact ⟨⟨_, rfl⟩, Upd.refl _ _⟩

set_option maxRecDepth 100000 in
set_option maxHeartbeats 2000000 in
theorem tw_updateWidth {S : Sink} (hs : S.Law Tryz.prog 531) {tb : Nat} {w : World} {G Fs : Nat → Prop} {inner t : List UInt8} {twd fg cs : Nat} {cw : Int} {ht : Bool} {nl : Nat} {c0 : List TCell}
    (h : TwAt S tb w G Fs inner t twd fg 0 cs cw ht nl c0) (hl : t.length ≤ LIM) :
    Calls Tryz.prog 166 #[.pointer (some ⟨tb, 0, none⟩)] w fun e w' => e = .returned (.tuple #[]) ∧ (∃ cw', TwAt S tb w' G Fs inner t twd fg t.length cs cw' ht nl c0) ∧ Upd (fun k => k = tb) w w' := by
  obtain ⟨vb, vl, aw, cap, hb, hr, hvb, hln, hI, hFt, hGt, hGF, hGl, hfg⟩ := h
  obtain ⟨vo, vc, rfl⟩ := hr.form
  have hle : t.length ≤ vc := by
    rcases hr.2 with ⟨h1, h0⟩ | ⟨g, cap, cur, h1, _, hg, hnc, hcm, hcs, htk⟩
    · injection h1 with _ h2 h3; omega
    · injection h1 with _ h2 h3; subst h3; exact hnc
  have c13 : w.cell? ⟨tb, 13, none⟩ = some (.slice vo t.length vc) := cell_at hb 13
  have c14 : w.cell? ⟨tb, 14, none⟩ = some (.int .i64 0) := cell_at hb 14
  have c16 : w.cell? ⟨tb, 16, none⟩ = some (.int .i64 cw) := cell_at hb 16
  have HRc := Lib.hid (fun (W : World) (hu : Upd (fun _ => False) w W) => rune_count (hr.stable hu fun _ _ h => h) hl)
  have hend : ∀ (w1 : World) (x : Int), Upd (fun _ => False) w.drew w1 → TwAt S tb ((w1.setCell ⟨tb, 16, none⟩ (.int .i64 x)).setCell ⟨tb, 14, none⟩ (.int .i64 (t.length : Int))) G Fs inner t twd fg t.length cs x ht nl c0 ∧
      Upd (fun k => k = tb) w ((w1.setCell ⟨tb, 16, none⟩ (.int .i64 x)).setCell ⟨tb, 14, none⟩ (.int .i64 (t.length : Int))) := fun w1 x hu => by
    have hu0 : Upd (fun _ => False) w w1 := (Upd.refl _ w).drew.trans hu
    have hu1 : Upd (fun k => k = tb) w ((w1.setCell ⟨tb, 16, none⟩ (.int .i64 x)).setCell ⟨tb, 14, none⟩ (.int .i64 (t.length : Int))) :=
      (Upd.setCell (F := fun k => k = tb) (Upd.setCell (F := fun k => k = tb) (hu0.mono fun _ h => h.elim) (p := ⟨tb, 16, none⟩) (.inl rfl) _) (p := ⟨tb, 14, none⟩) (.inl rfl) _)
    have hb1 := hu0.heap hb fun h => h
    refine ⟨TwAt.next hs (G' := G) hI hFt hGt hGF hfg (heap_lt hb) (hu1.mono fun k hk => .inl hk) (fun k hk => ⟨.inl hk, Nat.lt_of_lt_of_le (hGl k hk) hu1.size⟩) (aw := aw) (cap := cap) ?_ (hr.stable hu1 fun k hk e => hGt (e ▸ hvb k hk)) hvb (hln.stable hu1 (fun _ h => h) fun k cur t' hk hc => ?_), hu1⟩
    · refine (heap_setCell_at _ (heap_setCell_at _ hb1)).trans ?_
      simp [twCells]
    · subst hk
      have := cells_type hb hc
      subst this
      exact ⟨by decide, by decide⟩
  have HEnd := Lib.hid hend
  have HB := Lib.hid hb
  clear hend hb hr hln hI hvb hFt hGt hGF hGl hfg
  go_enter Tryz.func166, Tryz.ntmps166
  go_wp2_with fail
  go_region_with (
    go_at_call 178
    refine (HRc.out _ ?_).mono ?_
    first | exact (Upd.refl _ _).drew | exact Upd.refl _ _
    rintro e w1 ⟨⟨n, rfl⟩, hu1⟩
    have HB1 := Lib.hid (hu1.heap HB.out fun h => h)
    have d13 : w1.cell? ⟨tb, 13, none⟩ = some (.slice vo t.length vc) := cell_at HB1.out 13
    have d16 : w1.cell? ⟨tb, 16, none⟩ = some (.int .i64 cw) := cell_at HB1.out 16
    have e16 : w1.frozen? ⟨tb, 16, none⟩ = false := frozen_at HB1.out 16
    have d14 : w1.cell? ⟨tb, 14, none⟩ = some (.int .i64 0) := cell_at HB1.out 14
    have e14 : w1.frozen? ⟨tb, 14, none⟩ = false := frozen_at HB1.out 14
    have HU1 := Lib.hid hu1
    clear hu1)
  all_goals
    go_wp2
    go_end0
    exact ⟨rfl, ⟨_, (HEnd.out _ _ HU1.out).1⟩, (HEnd.out _ _ HU1.out).2⟩
end Go.Proofs.YtnhmgjgdkcgmfaaGreatFmt
