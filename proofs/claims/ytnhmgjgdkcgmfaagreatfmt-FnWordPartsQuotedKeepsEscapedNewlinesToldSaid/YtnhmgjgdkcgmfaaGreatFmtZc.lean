/-
  n010_150: positions, literals and rows of literals are made.
-/
import Derived.Test.YtnhmgjgdkcgmfaaGreatFmtMz
import Derived.Test.YtnhmgjgdkcgmfaaGreatFmtVf
import Derived.Test.YtnhmgjgdkcgmfaaGreatFmtRb
import Derived.Laws.BitsAllLaws
namespace Go.Proofs.YtnhmgjgdkcgmfaaGreatFmt
open Go.RowKit

/-- The line that a position holds, and how it holds it. -/
def clampL (line : Nat) : Nat := if 262143 < line then 0 else line
def lcP (line : Nat) : Nat := clampL line * 16384 + 1
theorem clampL_le (line : Nat) : clampL line ≤ 262143 := by unfold clampL; split <;> omega
theorem lcP_lt (line : Nat) : lcP line < 4294967296 := by have := clampL_le line; unfold lcP; omega
theorem lcP_line (line : Nat) : lcP line / 16384 = clampL line := by unfold lcP; omega

set_option maxRecDepth 100000 in
set_option maxHeartbeats 1000000 in
theorem new_pos (o line : Nat) (ho : o ≤ 4294967284) (w : World) : Calls Tryz.prog 18 #[.int .u64 (o : Int), .int .u64 (line : Int), .int .u64 1] w fun e w' => e = .returned (posV o (lcP line)) ∧ Upd (fun _ => False) w w' := by
  have hmin : min (o : Int) 4294967284 = (o : Int) := by omega
  have hwo : IntKind.u32.wrap (o : Int) = (o : Int) := by rw [IntKind.wrap_u32]; omega
  by_cases hl : 262143 < line
  · have hlI : (262143 : Int) < (line : Int) := by omega
    have e : lcP line = 1 := by simp [lcP, clampL, hl]
    rw [e]
    have hb : bits .or .u32 0 1 = 1 := by kernel_rfl
    clear hl e
    go_enter Tryz.func18, Tryz.ntmps18
    go_wp2
    refine bodyPost_ret (results_cell_row rfl _ _ w.heap.size _ _ (0, 0) _ rfl (heap_alloc_new w _) Tryz.underlying42 rfl (by kernel_rfl)) rfl ?_
    exact ⟨rfl, (Upd.refl _ w).alloc _⟩
  · have hlI : ¬ (262143 : Int) < (line : Int) := by omega
    have e : lcP line = line * 16384 + 1 := by simp [lcP, clampL, hl]
    rw [e]
    have hwl : IntKind.u32.wrap (line : Int) = (line : Int) := by rw [IntKind.wrap_u32]; omega
    have hb : bits .or .u32 ((line : Int) * 16384) 1 = ((line * 16384 + 1 : Nat) : Int) := by
      have h1 := u32_or_nat (line * 16384) 1 (by omega) (by omega)
      rw [nat_join 14 (line * 16384) 1 (by omega) (by omega)] at h1
      rw [← h1]
      simp
    clear hl e
    go_enter Tryz.func18, Tryz.ntmps18
    go_wp2
    refine bodyPost_ret (results_cell_row rfl _ _ w.heap.size _ _ (0, 0) _ rfl (heap_alloc_new w _) Tryz.underlying42 rfl (by kernel_rfl)) rfl ?_
    exact ⟨by simp [posV], (Upd.refl _ w).alloc _⟩

/-- The literal that zzLit makes. -/
def litZ (lb line : Nat) (v : ByteArray) : LitP := ⟨lb, 0, lcP line, 0, lcP line, v⟩

set_option maxRecDepth 100000 in
set_option maxHeartbeats 1000000 in
theorem z_lit (v : ByteArray) (line : Nat) (w : World) : Calls Tryz.prog 25 #[.string v, .int .u64 (line : Int)] w fun e w' => ∃ lb, e = .returned (.pointer (some ⟨lb, 0, none⟩)) ∧ w.heap.size ≤ lb ∧ w'.heap[lb]? = some (litO (litZ lb line v)) ∧ Upd (fun _ => False) w w' := by
  go_enter Tryz.func25, Tryz.ntmps25
  go_wp2_with (first
    | (go_at_call 18; refine (new_pos 0 line (by omega) w).mono ?_; rintro e w1 ⟨rfl, hu1⟩; have HU1 := Lib.hid hu1; clear hu1)
    | (go_at_call 18; refine (new_pos 0 line (by omega) _).mono ?_; rintro e w2 ⟨rfl, hu2⟩; have HU2 := Lib.hid (HU1.out.trans hu2); clear hu2))
  go_ret
  have hz := HU2.out.size
  exact ⟨_, rfl, hz, heap_alloc_new _ _, HU2.out.alloc _⟩

theorem StrsRd.form0 {w : World} {v : Value} (h : StrsRd w v []) : ∃ ao c, v = .slice ao 0 c := by
  rcases h with ⟨rfl, _⟩ | ⟨a, c, rfl, _⟩
  · exact ⟨_, _, rfl⟩
  · exact ⟨_, _, rfl⟩
theorem UintsRd.form0 {w : World} {v : Value} (h : UintsRd w v []) : ∃ ao c, v = .slice ao 0 c := by
  rcases h with ⟨rfl, _⟩ | ⟨a, c, rfl, _⟩
  · exact ⟨_, _, rfl⟩
  · exact ⟨_, _, rfl⟩

set_option maxRecDepth 100000 in
theorem run_make_parts (w : World) (n : Nat) (hn : n ≤ 1048576) : ∃ cur : Array Value, cur.size = n ∧ (Instr.makeSlice 44 (.int .i64 (n : Int)) (.int .i64 (n : Int))).run Tryz.prog w = .ok (.slice (some ⟨w.heap.size, 0, none⟩) n n) (w.alloc (.cells cur 66)) := by
  obtain ⟨i, z, hi, hz, hzs, hsz, hby⟩ : ∃ i z, Tryz.prog.info? 66 = some i ∧ i.zero = some z ∧ z.cells.size = 1 ∧ i.size = 1 ∧ i.bytes = 16 := ⟨_, _, rfl, rfl, rfl, rfl, rfl⟩
  refine ⟨_, ?_, run_make w 44 66 i _ Tryz.underlying44 hi hz .i64 .i64 n n (by omega) (by omega) (by rw [hby]; omega) (by omega)⟩
  rw [hsz]
  simp [size_madeCells]

/-! The text of quoted literals on lines, over the values themselves. -/
def qZ : Nat → List (ByteArray × Nat) → List UInt8
  | _, [] => []
  | ln, (s, x) :: r => nls (clampL x - ln) ++ litText s.data.toList ++ qZ (max ln (clampL x)) r
def qZl : Nat → List (ByteArray × Nat) → Nat
  | ln, [] => ln
  | ln, (_, x) :: r => qZl (max ln (clampL x)) r

/-- The parts that were made, as they lie in w. -/
def PartsZ (w : World) (rb : Nat) (ps : List LitP) (vals : List ByteArray) (lines : List Nat) : Prop :=
  PartsX (fun k o => w.heap[k]? = some o) rb ps ∧ ps.map LitP.v = vals ∧ ps.map LitP.l1 = lines.map lcP

theorem qZ_parts {w : World} {rb : Nat} {ps : List LitP} {vals : List ByteArray} {lines : List Nat} (h : PartsZ w rb ps vals lines) (ln : Nat) (hlen : lines.length = vals.length) :
    qText ln ps = qZ ln (vals.zip lines) ∧ qLn ln ps = qZl ln (vals.zip lines) := by
  obtain ⟨hx, h1, h2⟩ := h
  clear hx
  subst h1
  induction ps generalizing ln lines with
  | nil => exact ⟨rfl, rfl⟩
  | cons p r ih =>
    cases lines with
    | nil => simp at hlen
    | cons x xs =>
      simp only [List.map_cons, List.cons.injEq] at h2
      have hl : p.ln = clampL x := by show p.l1 / 16384 = _; rw [h2.1, lcP_line]
      have := ih (max ln (clampL x)) (lines := xs) h2.2 (by simpa using hlen)
      simp only [List.map_cons, List.zip_cons_cons, qText, qLn, qZ, qZl, hl, this.1, this.2, and_self]

theorem qZl_ge (ln : Nat) (zs : List (ByteArray × Nat)) : ln ≤ qZl ln zs := by
  induction zs generalizing ln with
  | nil => exact Nat.le_refl _
  | cons p r ih => exact Nat.le_trans (Nat.le_max_left _ _) (ih _)
theorem qZl_le (zs : List (ByteArray × Nat)) {ln : Nat} (h : ln ≤ 262143) : qZl ln zs ≤ 262143 := by
  induction zs generalizing ln with
  | nil => exact h
  | cons p r ih => exact ih (Nat.max_le.2 ⟨h, clampL_le _⟩)
theorem qZ_len (ln : Nat) (zs : List (ByteArray × Nat)) : (qZ ln zs).length ≤ 2 * (qZl ln zs - ln) + (zs.map fun p => p.1.size + 1).sum := by
  induction zs generalizing ln with
  | nil => simp [qZ]
  | cons p r ih =>
    obtain ⟨s, x⟩ := p
    have h1 := ih (max ln (clampL x))
    have h2 := litText_len s
    have h3 := qZl_ge (max ln (clampL x)) r
    simp only [qZ, qZl, List.length_append, nls_len, List.map_cons, List.sum_cons] at h1 ⊢
    omega
theorem zip_sum (vals : List ByteArray) (lines : List Nat) : ((vals.zip lines).map fun p => p.1.size + 1).sum ≤ (vals.map ByteArray.size).sum + vals.length := by
  induction vals generalizing lines with
  | nil => simp
  | cons s r ih =>
    cases lines with
    | nil => simp
    | cons x xs =>
      have := ih xs
      simp only [List.zip_cons_cons, List.map_cons, List.sum_cons, List.length_cons] at this ⊢
      omega

set_option maxRecDepth 100000 in
set_option maxHeartbeats 4000000 in
theorem z_litParts {w : World} {vv lv : Value} {vals : List ByteArray} {lines : List Nat} (hv : StrsRd w vv vals) (hL : UintsRd w lv lines) (hlen : lines.length = vals.length) (hl : vals.length ≤ 1048576) :
    Calls Tryz.prog 19 #[vv, lv] w fun e w' => ∃ rb ps, e = .returned (.slice (some ⟨rb, 0, none⟩) vals.length vals.length) ∧ PartsZ w' rb ps vals lines ∧ Upd (fun _ => False) w w' := by
  obtain ⟨n, hn⟩ : ∃ n, n = vals.length := ⟨_, rfl⟩
  obtain ⟨cur0, hcs, hmk⟩ := run_make_parts w n (by omega)
  have hu1 : Upd (fun _ => False) w (w.alloc (.cells cur0 66)) := (Upd.refl _ w).alloc _
  have hN := heap_alloc_new w (.cells cur0 66)
  rw [← hn] at hl ⊢
  have hnI : (n : Int) ≤ 1048576 := by omega
  by_cases h0 : n = 0
  · have hv0 : vals = [] := List.length_eq_zero_iff.1 (by omega)
    have hl0 : lines = [] := List.length_eq_zero_iff.1 (by omega)
    subst hv0 hl0 h0
    obtain ⟨va, vc, rfl⟩ := hv.form0
    obtain ⟨la, lc, rfl⟩ := hL.form0
    have hc0 : cur0 = #[] := Array.size_eq_zero_iff.1 hcs
    subst hc0
    have hmk0 : (Instr.makeSlice 44 (.int .i64 0) (.int .i64 0)).run Tryz.prog w = .ok (.slice (some ⟨w.heap.size, 0, none⟩) 0 0) (w.alloc (.cells #[] 66)) := by simpa using hmk
    have HE := Lib.hid (And.intro hu1 hN)
    clear hv hL hlen hl hn hcs hu1 hN
    go_enter Tryz.func19, Tryz.ntmps19
    go_wp2_with fail
    go_loopg [12] 0 (fun _ v12 wr => v12 = .int .i64 0 ∧ w.alloc (.cells #[] 66) = wr)
    case atStart => exact ⟨rfl, rfl⟩
    case round =>
      obtain ⟨rfl, rfl⟩ := hrel
      go_wp2_with fail
      go_ret
      exact ⟨w.heap.size, [], rfl, ⟨⟨HE.out.2, fun p hp => by cases hp⟩, rfl, rfl⟩, HE.out.1⟩
  · rcases hv with ⟨_, hv0⟩ | ⟨a, c, rfl, hlc, hrd⟩
    · rw [hv0] at hn; exact absurd hn h0
    rcases hL with ⟨_, hl0⟩ | ⟨a2, c2, rfl, hlc2, hrd2⟩
    · rw [hl0] at hlen; simp at hlen; omega
    rw [hlen, ← hn]
    have HC := Lib.hid (And.intro hrd (And.intro hrd2 (And.intro hn hlen)))
    have HN := Lib.hid (And.intro hN (And.intro hcs hu1))
    clear hrd hrd2 hlc hlc2 hlen hl hn h0 hcs hu1 hN
    go_enter Tryz.func19, Tryz.ntmps19
    go_wp2_with fail
    go_loopg [12] n (fun k v12 wr => ∃ (j : Nat) (cur : Array Value) (ps : List LitP), v12 = .int .i64 (j : Int) ∧ j + k = n ∧ wr.heap[w.heap.size]? = some (.cells cur 66 (0, 0)) ∧ cur.size = n ∧ ps.length = j ∧ cur.toList.take j = ps.map litIf ∧
      (∀ p ∈ ps, wr.heap[p.lb]? = some (litO p) ∧ p.l1 < 4294967296 ∧ p.l2 = p.l1 ∧ w.heap.size < p.lb) ∧ ps.map LitP.v = vals.take j ∧ ps.map LitP.l1 = (lines.take j).map lcP ∧ Upd (fun k => k = w.heap.size) (w.alloc (.cells cur0 66)) wr)
    case atStart => exact ⟨0, cur0, [], rfl, by omega, HN.out.1, HN.out.2.1, rfl, by simp, fun p hp => (by cases hp), by simp, by simp, Upd.refl _ _⟩
    case round =>
      obtain ⟨j, cur, ps, rfl, hjk, hg, hsz, hpl, htk, hps, hvs, hls, hu⟩ := hrel
      have HG := Lib.hid (And.intro hg (And.intro hsz (And.intro hpl (And.intro htk (And.intro hps (And.intro hvs (And.intro hls hu)))))))
      have HJ := Lib.hid hjk
      clear hjk hpl htk hps hvs hls
      by_cases hlt : j < n
      · have hltI : (j : Int) < (n : Int) := by omega
        have hj1 : j < vals.length := by have := HC.out.2.2.1; omega
        have hj2 : j < lines.length := by have := HC.out.2.2.2; omega
        obtain ⟨s, hs⟩ : ∃ s, vals[j]'hj1 = s := ⟨_, rfl⟩
        obtain ⟨x, hx⟩ : ∃ x, lines[j]'hj2 = x := ⟨_, rfl⟩
        have huw : ∀ {p : Addr} {u : Value}, w.cell? p = some u → wr.cell? p = some u := fun {p u} hp => by
          have h2 := World.block_lt_of_cell? w _ hp
          exact hu.cell (HN.out.2.2.cell hp fun h => h) (by omega)
        have c1 : wr.cell? (a.add j) = some (.string s) := huw (HC.out.1 j s (by rw [List.getElem?_eq_getElem hj1, hs]))
        have c2 : wr.cell? (a2.add j) = some (.int .u64 (x : Int)) := huw (HC.out.2.1 j x (by rw [List.getElem?_eq_getElem hj2, hx]))
        have hba := World.block_lt_of_cell? w _ (HC.out.1 j s (by rw [List.getElem?_eq_getElem hj1, hs]))
        have hbb := World.block_lt_of_cell? w _ (HC.out.2.1 j x (by rw [List.getElem?_eq_getElem hj2, hx]))
        have HS := Lib.hid (And.intro hs hx)
        have hgl : w.heap.size < wr.heap.size := heap_lt hg
        clear hs hx huw hg hu hsz
        obtain ⟨Q, HQ, HCl⟩ := callsVar (z_lit s x wr.drew)
        go_wp2_with fail
        go_region_held3 (fun w' => w'.cell? (a.add j) = some (.string s) ∧ w'.cell? (a2.add j) = some (.int .u64 (x : Int))) (first | exact ⟨c1, c2⟩ | exact ⟨m1, m2⟩ | exact ⟨q1, q2⟩ | simp [go_sem, *])
          (first | (go_at_call 25; refine HCl.out.mono ?_; rintro e w1 hq
                    obtain ⟨lb, rfl, hlb, hlo, hu1⟩ := HQ.out e w1 hq
                    have hg1 := hu1.heap (k := w.heap.size) (show wr.drew.heap[w.heap.size]? = _ from HG.out.1) fun h => h
                    have k2 : w1.cell? ⟨w.heap.size, j, none⟩ = some (cur[j]'(by have := HG.out.2.1; omega)) := by rw [cell_at hg1, Array.getElem?_eq_getElem]
                    have k3 : w1.frozen? ⟨w.heap.size, j, none⟩ = false := frozen_at hg1 j
                    have m1 := hu1.cell (show wr.drew.cell? (a.add j) = _ from c1) fun h => h
                    have m2 := hu1.cell (show wr.drew.cell? (a2.add j) = _ from c2) fun h => h
                    have q1 := ((Upd.refl (fun k => k = w.heap.size) w1).setCell (p := ⟨w.heap.size, j, none⟩) (.inl rfl) (.iface 63 (.pointer (some ⟨lb, 0, none⟩)))).cell m1 (show ¬ (a.add j).block = w.heap.size by omega)
                    have q2 := ((Upd.refl (fun k => k = w.heap.size) w1).setCell (p := ⟨w.heap.size, j, none⟩) (.inl rfl) (.iface 63 (.pointer (some ⟨lb, 0, none⟩)))).cell m2 (show ¬ (a2.add j).block = w.heap.size by omega)
                    have HP := Lib.hid (And.intro hlb (And.intro hlo (And.intro hu1 hg1)))
                    clear hq hlb hlo hu1 hg1))
        go_wp2_with fail
        go_roundg (n - (j + 1))
        case measure => have := HJ.out; omega
        case rel =>
          obtain ⟨hg, hsz, hpl, htk, hps, hvs, hls, hu⟩ := HG.out
          obtain ⟨hlb, hlo, hu1, hg1⟩ := HP.out
          have hu2 : Upd (fun k => k = w.heap.size) w1 (w1.setCell ⟨w.heap.size, j, none⟩ (.iface 63 (.pointer (some ⟨lb, 0, none⟩)))) := (Upd.refl (fun k => k = w.heap.size) w1).setCell (p := ⟨w.heap.size, j, none⟩) (.inl rfl) _
          have hlb' : wr.heap.size ≤ lb := hlb
          refine ⟨j + 1, cur.setIfInBounds j (.iface 63 (.pointer (some ⟨lb, 0, none⟩))), ps ++ [litZ lb x s], by go_num, by have := HJ.out; omega, heap_setCell_at _ hg1, by simpa using hsz, by simp [hpl], ?_, fun p hp => ?_, ?_, ?_, ?_⟩
          · rw [Array.toList_setIfInBounds]
            have h1 : j < cur.toList.length := by rw [Array.length_toList]; omega
            rw [List.take_succ_eq_append_getElem (by rw [List.length_set]; exact h1), List.take_set_of_le (Nat.le_refl _), htk]
            simp [litIf, litZ]
          · rw [List.mem_append, List.mem_singleton] at hp
            rcases hp with hp | rfl
            · obtain ⟨q1, q2, q3, q4⟩ := hps p hp
              exact ⟨hu2.heap (hu1.heap (show wr.drew.heap[p.lb]? = _ from q1) fun h => h) (by omega), q2, q3, q4⟩
            · exact ⟨hu2.heap hlo (by show ¬ lb = w.heap.size; omega), lcP_lt x, rfl, by show w.heap.size < lb; omega⟩
          · rw [List.map_append, hvs, List.take_succ_eq_append_getElem hj1, HS.out.1]
            rfl
          · rw [List.map_append, hls, List.take_succ_eq_append_getElem hj2, HS.out.2, List.map_append]
            rfl
          · exact ((hu.trans (((Upd.refl (fun _ => False) wr).drew.trans hu1).mono fun _ h => h.elim)).trans hu2)
      · obtain rfl : j = n := by have := HJ.out; omega
        clear hg hu hsz
        go_wp2_with fail
        go_ret
        obtain ⟨hg, hsz, hpl, htk, hps, hvs, hls, hu⟩ := HG.out
        have hcur : cur = (ps.map litIf).toArray := by
          apply Array.ext'
          rw [← htk, List.take_of_length_le (by rw [Array.length_toList]; omega)]
        refine ⟨w.heap.size, ps, rfl, ⟨⟨?_, fun p hp => ⟨(hps p hp).1, (hps p hp).2.1, (hps p hp).2.2.1⟩⟩, ?_, ?_⟩, ?_⟩
        · rw [← hcur]; exact hg
        · rw [hvs, HC.out.2.2.1, List.take_length]
        · rw [hls, show j = lines.length by have h1 := HC.out.2.2.1; have h2 := HC.out.2.2.2; omega, List.take_length]
        · exact HN.out.2.2.trans' hu fun k hk => .inr (by omega)
end Go.Proofs.YtnhmgjgdkcgmfaaGreatFmt
