/-
  bytes.Buffer: grow with no row.
-/
import Derived.Test.YtjljnfmacechfaaGreatFmtSbbA
import Derived.Test.YtjljnfmacechfaaGreatFmtMa
namespace Go.Proofs.YtjljnfmacechfaaGreatFmt
open Go.RowKit

set_option maxHeartbeats 4000000 in
set_option maxRecDepth 100000 in
theorem bb_grow_small (b n : Nat) (lr : Int) (w : World) (hbk : w.heap[b]? = some (.cells #[.slice none 0 0, .int .i64 0, .int .i8 lr] 84 (0, 0))) (hn : 1 ≤ n) (h64 : n ≤ 64) :
    Calls Tryz.prog 185 #[.pointer (some ⟨b, 0, none⟩), .int .i64 (n : Int)] w fun e w' => e = .returned (.int .i64 0) ∧ BbGrown b w [] n lr w' := by
  have hnil : ∀ W, (binOp .eql 22 (.slice none 0 0) (.slice none 0 0)).run Tryz.prog W = .ok (.bool true) W := fun W => Lib.run_eql_slice_nil_nil W _ _ Tryz.underlying22
  obtain ⟨cur, hcs, hmk⟩ : ∃ cur : Array Value, cur.size = 64 ∧ ∀ W, (Instr.makeSlice 22 (.int .i64 (n : Int)) (.int .i64 64)).run Tryz.prog W = .ok (.slice (some ⟨W.heap.size, 0, none⟩) n 64) (W.alloc (.cells cur 5)) := by
    obtain ⟨i, hi, hz, hsz, hby⟩ : ∃ i, Tryz.prog.info? 5 = some i ∧ i.zero = some (.int .u8 0) ∧ i.size = 1 ∧ i.bytes = 1 := ⟨_, rfl, rfl, rfl, rfl⟩
    refine ⟨_, ?_, fun W => run_make W 22 5 i _ Tryz.underlying22 hi hz .i64 .i64 n 64 (by omega) (by omega) (by rw [hby]; decide) (by decide)⟩
    rw [hsz]
    simp [madeCells, Value.cells]
  have c0 : w.cell? ⟨b, 0, none⟩ = some (.slice none 0 0) := cell_at hbk 0
  have c1 : w.cell? ⟨b, 1, none⟩ = some (.int .i64 0) := cell_at hbk 1
  have f0 : w.frozen? ⟨b, 0, none⟩ = false := frozen_at hbk 0
  have hn0 : 0 < n := hn
  have h64' : (n : Int) ≤ 64 := by omega
  have HBk := Lib.hid hbk; clear hbk
  obtain ⟨Q1, HQ1, HL⟩ := callsVar (bb_len b 0 0 none w c0 c1 (by omega))
  go_enter Tryz.func185, Tryz.ntmps185
  go_wp2_with (go_at_call 186; refine HL.out.mono ?_)
  rintro e w1 hq
  obtain ⟨rfl, k1, hw1⟩ := HQ1.out e w1 hq
  clear hq
  have d0 : w1.cell? ⟨b, 0, none⟩ = some (.slice none 0 0) := hw1 ▸ c0
  have d1 : w1.cell? ⟨b, 1, none⟩ = some (.int .i64 0) := hw1 ▸ c1
  have e0 : w1.frozen? ⟨b, 0, none⟩ = false := hw1 ▸ f0
  have hh1 : w1.heap = w.heap := by rw [hw1]; rfl
  have HBk1 := Lib.hid ((congrArg (·[b]?) hh1).trans HBk.out)
  have a1 : (w1.alloc (.cells cur 5)).cell? ⟨b, 0, none⟩ = some (.slice none 0 0) := cell_at ((Below.heap_alloc _ _ _ (heap_lt HBk1.out)).trans HBk1.out) 0
  have a0 : (w1.alloc (.cells cur 5)).frozen? ⟨b, 0, none⟩ = false := frozen_at ((Below.heap_alloc _ _ _ (heap_lt HBk1.out)).trans HBk1.out) 0
  have HH1 := Lib.hid hh1; clear hh1
  have HU1 := Lib.hid (show Upd (fun k => k = b) w w1 from hw1 ▸ (Upd.refl _ w).drewN k1)
  clear hw1
  go_wp2_with (go_at_call 184; refine (Go.Proofs.Tryz.Buffer_tryGrow_none b none 0 0 n _ ?_ (Nat.le_refl _) (by unfold maxLen; omega) (by omega)).mono ?_; exact d0; rintro e w1 ⟨rfl, rfl⟩)
  go_ret
  have hbs := heap_lt HBk1.out
  have hsz : w1.heap.size = w.heap.size := congrArg Array.size HH1.out
  have hnew := heap_alloc_new w1 (.cells cur 5)
  have hbn : ¬ w1.heap.size = b := by omega
  refine ⟨rfl, w1.heap.size, 64, cur, ?_, ?_, hcs, by unfold maxLen; omega, by simpa using h64, by simp, by omega, ?_⟩
  · refine (heap_setCell_at _ ((Below.heap_alloc _ _ _ hbs).trans HBk1.out)).trans ?_
    simp
  · exact (Below.heap_setCell _ _ _ _ hbn).trans hnew
  · exact (HU1.out.alloc _).setCell (p := ⟨b, 0, none⟩) (.inl rfl) _

end Go.Proofs.YtjljnfmacechfaaGreatFmt
