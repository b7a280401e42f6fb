/-
  n010_157: copies of slices.
-/
import Derived.Test.YtjljnfmacechfaaGreatFmtTl
import Derived.Deep.LoopGhost
namespace Go.Proofs.YtjljnfmacechfaaGreatFmt
open Go.RowKit

/-- A row of small numbers in a block that is said. -/
def CpRow (w : World) (v : Value) (ks : List Nat) : Prop :=
  (v = .slice none 0 0 ∧ ks = []) ∨ ∃ g : Nat, v = .slice (some ⟨g, 0, none⟩) ks.length ks.length ∧ ∀ (j : Nat) (k : Nat), ks[j]? = some k → w.cell? ⟨g, j, none⟩ = some (.int .u8 (k : Int))
theorem CpRow.rd {w : World} {v : Value} {ks : List Nat} (h : CpRow w v ks) : KsRd w v ks := by
  rcases h with h | ⟨g, h1, h2⟩
  · exact .inl h
  · exact .inr ⟨⟨g, 0, none⟩, ks.length, h1, Nat.le_refl _, fun j k hj => by rw [Addr.add_base]; exact h2 j k hj⟩
theorem CpRow.form {w : World} {v : Value} {ks : List Nat} (h : CpRow w v ks) : ∃ ao c, v = .slice ao ks.length c := by
  rcases h with ⟨h1, h2⟩ | ⟨g, h1, h2⟩
  · exact ⟨none, 0, by rw [h1, h2]; rfl⟩
  · exact ⟨_, _, h1⟩
theorem CpRow.one {w : World} {v : Value} {k : Nat} (h : CpRow w v [k]) : ∃ g : Nat, v = .slice (some ⟨g, 0, none⟩) 1 1 ∧ w.cell? ⟨g, 0, none⟩ = some (.int .u8 (k : Int)) := by
  rcases h with ⟨h1, h2⟩ | ⟨g, h1, h2⟩
  · cases h2
  · exact ⟨g, h1, h2 0 k rfl⟩

set_option maxRecDepth 100000 in
set_option maxHeartbeats 2000000 in
theorem cp_bytes157 {w : World} {v : Value} {L : List Nat} (h : KsRd w v L) (hl : L.length ≤ 1048576) :
    Calls Tryz.prog 6 #[v] w fun e w' => ∃ v', e = .returned v' ∧ CpRow w' v' L ∧ Upd (fun _ => False) w w' := by
  rcases h with ⟨rfl, rfl⟩ | ⟨a, c, rfl, hlc, hrd⟩
  · have hsl : ∀ w, (binOp .eql 22 (.slice none 0 0) (.slice none 0 0)).run Tryz.prog w = .ok (.bool true) w := fun w => by kernel_rfl
    clear hl
    go_enter Tryz.func6, Tryz.ntmps6
    go_wp2
    go_ret
    exact ⟨_, rfl, .inl ⟨rfl, rfl⟩, Upd.refl _ w⟩
  · obtain ⟨n, hn⟩ : ∃ n, n = L.length := ⟨_, rfl⟩
    have hsl : ∀ w, (binOp .eql 22 (.slice (some a) n c) (.slice none 0 0)).run Tryz.prog w = .ok (.bool false) w := fun w => by kernel_rfl
    obtain ⟨cur0, hcs, hmk⟩ : ∃ cur : Array Value, cur.size = n ∧ (Instr.makeSlice 22 (.int .i64 (n : Int)) (.int .i64 (n : Int))).run Tryz.prog w = .ok (.slice (some ⟨w.heap.size, 0, none⟩) n n) (w.alloc (.cells cur 5)) := by
      obtain ⟨i, z, hi, hz, hzs, hsz, hby⟩ : ∃ i z, Tryz.prog.info? 5 = some i ∧ i.zero = some z ∧ z.cells.size = 1 ∧ i.size = 1 ∧ i.bytes = 1 := ⟨_, _, rfl, rfl, rfl, rfl, rfl⟩
      refine ⟨_, ?_, run_make w 22 5 i _ Tryz.underlying22 hi hz .i64 .i64 n n (by omega) (by omega) (by rw [hby]; omega) (by omega)⟩
      rw [hsz]
      simp [size_madeCells]
    rw [← hn] at hl ⊢
    have hnI : (n : Int) ≤ 1048576 := by omega
    have hu1 : Upd (fun _ => False) w (w.alloc (.cells cur0 5)) := (Upd.refl _ w).alloc _
    have hN := heap_alloc_new w (.cells cur0 5)
    have HRd := Lib.hid (fun (W : World) (hW : Upd (fun k => k = w.heap.size) (w.alloc (.cells cur0 5)) W) (j : Nat) (hj : j < L.length) => show W.cell? (a.add j) = some (.int .u8 (L[j] : Int)) by
      have h1 := hrd j L[j] (List.getElem?_eq_getElem hj)
      have h2 := World.block_lt_of_cell? w _ h1
      exact hW.cell (hu1.cell h1 fun h => h) (by omega))
    have HN := Lib.hid hN
    have HCs := Lib.hid hcs
    have HU1 := Lib.hid hu1
    have Hn := Lib.hid hn
    clear hrd hN hcs hu1 hn hlc
    go_enter Tryz.func6, Tryz.ntmps6
    go_wp2_with fail
    go_loopg [4] n (fun k v4 wr => ∃ (j : Nat) (cur : Array Value), v4 = .int .i64 (j : Int) ∧ j + k = n ∧ wr.heap[w.heap.size]? = some (.cells cur 5 (0, 0)) ∧ cur.size = n ∧ (∀ i b, i < j → L[i]? = some b → cur[i]? = some (.int .u8 (b : Int))) ∧ Upd (fun k => k = w.heap.size) (w.alloc (.cells cur0 5)) wr)
    case atStart => exact ⟨0, cur0, rfl, by omega, HN.out, HCs.out, fun i b hi => absurd hi (by omega), Upd.refl _ _⟩
    case round =>
      obtain ⟨j, cur, rfl, hjk, hg, hsz, hpre, hu⟩ := hrel
      have HJ := Lib.hid hjk; clear hjk
      have HG := Lib.hid (And.intro hg (And.intro hsz (And.intro hpre hu)))
      by_cases hlt : j < n
      · have hltI : (j : Int) < (n : Int) := by omega
        have hjL : j < L.length := by have := Hn.out; omega
        have c1 := HRd.out wr hu j hjL
        have c2 : wr.cell? ⟨w.heap.size, j, none⟩ = some (cur[j]'(by omega)) := by rw [cell_at hg, Array.getElem?_eq_getElem]
        have f2 : wr.frozen? ⟨w.heap.size, j, none⟩ = false := frozen_at hg j
        clear hg hpre hu
        go_wp2_with fail
        go_roundg (n - (j + 1))
        case measure => have := HJ.out; omega
        case rel =>
          obtain ⟨hg, hsz, hpre, hu⟩ := HG.out
          refine ⟨j + 1, cur.setIfInBounds j (.int .u8 (L[j] : Int)), by go_num, by omega, heap_setCell_at _ hg, by simpa using hsz, fun i b hi hb => ?_, hu.setCell (p := ⟨w.heap.size, j, none⟩) (.inl rfl) _⟩
          by_cases hij : i = j
          · subst hij
            rw [Array.getElem?_setIfInBounds_self, if_pos (by omega)]
            rw [List.getElem?_eq_getElem hjL] at hb
            rw [Option.some.inj hb]
          · rw [Array.getElem?_setIfInBounds_ne (by omega)]
            exact hpre i b (by omega) hb
      · obtain rfl : j = n := by have := HJ.out; omega
        clear hg hsz hpre hu
        go_wp2_with fail
        go_ret
        obtain ⟨hg, hsz, hpre, hu⟩ := HG.out
        refine ⟨.slice (some ⟨w.heap.size, 0, none⟩) j j, rfl, .inr ⟨w.heap.size, by rw [← Hn.out], fun i b hi => ?_⟩, ?_⟩
        · rw [cell_at hg]
          have : i < L.length := (List.getElem?_eq_some_iff.1 hi).1
          exact hpre i b (by have := Hn.out; omega) hi
        · exact HU1.out.trans' hu fun k hk => .inr (by omega)



end Go.Proofs.YtjljnfmacechfaaGreatFmt
