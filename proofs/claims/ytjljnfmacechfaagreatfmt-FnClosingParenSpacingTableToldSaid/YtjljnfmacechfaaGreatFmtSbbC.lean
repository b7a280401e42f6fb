/-
  bytes.Buffer: grow with no row, a long text.
-/
import Derived.Test.YtjljnfmacechfaaGreatFmtSbbB
namespace Go.Proofs.YtjljnfmacechfaaGreatFmt
open Go.RowKit

set_option maxHeartbeats 4000000 in
set_option maxRecDepth 100000 in
theorem bb_grow_big (b n : Nat) (lr : Int) (w : World) (hbk : w.heap[b]? = some (.cells #[.slice none 0 0, .int .i64 0, .int .i8 lr] 84 (0, 0))) (h64 : 64 < n) (hlim : n ≤ 140737488355328) :
    Calls Tryz.prog 185 #[.pointer (some ⟨b, 0, none⟩), .int .i64 (n : Int)] w fun e w' => e = .returned (.int .i64 0) ∧ BbGrown b w [] n lr w' := by
  have hnil : ∀ W, (binOp .eql 22 (.slice none 0 0) (.slice none 0 0)).run Tryz.prog W = .ok (.bool true) W := fun W => Lib.run_eql_slice_nil_nil W _ _ Tryz.underlying22
  have c0 : w.cell? ⟨b, 0, none⟩ = some (.slice none 0 0) := cell_at hbk 0
  have c1 : w.cell? ⟨b, 1, none⟩ = some (.int .i64 0) := cell_at hbk 1
  have hn0 : 0 < n := by omega
  have h64' : ¬ (n : Int) ≤ 64 := by omega
  have hle0 : ¬ (n : Int) ≤ 0 := by omega
  have hwn : IntKind.i64.wrap (n : Int) = n := by rw [IntKind.wrap_i64]; omega
  have HBk := Lib.hid hbk; clear hbk
  obtain ⟨Q1, HQ1, HL⟩ := callsVar (bb_len b 0 0 none w c0 c1 (by omega))
  go_enter Tryz.func185, Tryz.ntmps185
  go_wp2_with (go_at_call 186; refine HL.out.mono ?_)
  rintro e w1 hq
  obtain ⟨rfl, k1, hw1⟩ := HQ1.out e w1 hq
  clear hq
  have d0 : w1.cell? ⟨b, 0, none⟩ = some (.slice none 0 0) := hw1 ▸ c0
  have d1 : w1.cell? ⟨b, 1, none⟩ = some (.int .i64 0) := hw1 ▸ c1
  have hh1 : w1.heap = w.heap := by rw [hw1]; rfl
  have HBk1 := Lib.hid ((congrArg (·[b]?) hh1).trans HBk.out)
  have HH1 := Lib.hid hh1; clear hh1
  have HU1 := Lib.hid (show Upd (fun k => k = b) w w1 from hw1 ▸ (Upd.refl _ w).drewN k1)
  clear hw1
  go_wp2_with (go_at_call 184; refine (Go.Proofs.Tryz.Buffer_tryGrow_none b none 0 0 n _ ?_ (Nat.le_refl _) (by unfold maxLen; omega) (by omega)).mono ?_; exact d0; rintro e w1 ⟨rfl, rfl⟩)
  go_region_with (
    go_at_call 187
    refine (Go.Proofs.Tryz.bytes_growSlice_nil n _ (by omega) hlim).mono ?_
    rintro e w2 ⟨cap2, cells, rfl, hN, hcsz, hcap2, hcm2, hbel⟩
    have HB2 := Lib.hid ((hbel.block b (heap_lt HBk1.out)).trans HBk1.out)
    have d0 : w2.cell? ⟨b, 0, none⟩ = some (.slice none 0 0) := cell_at HB2.out 0
    have d1 : w2.cell? ⟨b, 1, none⟩ = some (.int .i64 0) := cell_at HB2.out 1
    have e0 : w2.frozen? ⟨b, 0, none⟩ = false := frozen_at HB2.out 0
    have e1 : w2.frozen? ⟨b, 1, none⟩ = false := frozen_at HB2.out 1
    have HN := Lib.hid hN
    clear hN
    have HBel := Lib.hid hbel
    clear hbel
    have HSz2 := Lib.hid hcsz
    clear hcsz)
  all_goals
    go_wp2
    go_ret
    have hsz := HBel.out.size
    have hh : w1.heap.size = w.heap.size := congrArg Array.size HH1.out
    have hdr : w1.drew.heap.size = w1.heap.size := rfl
    have hbs := heap_lt HBk1.out
    have hN : w2.heap[w1.heap.size]? = some (.cells cells 5 (0, 0)) := HN.out
    have hbn : ¬ w1.heap.size = b := by omega
    refine ⟨rfl, w1.heap.size, cap2, cells, ?_, ?_, HSz2.out, hcm2, by simpa using hcap2, by simp, by omega, ?_⟩
    · refine (heap_setCell_at _ (heap_setCell_at _ (heap_setCell_at _ HB2.out))).trans ?_
      simp
    · exact (Below.heap_setCell _ _ _ _ hbn).trans ((Below.heap_setCell _ _ _ _ hbn).trans ((Below.heap_setCell _ _ _ _ hbn).trans hN))
    · have h2 : Upd (fun k => k = b) w w2 := HU1.out.drew.trans (Upd.of_below HBel.out _)
      exact ((h2.setCell (p := ⟨b, 0, none⟩) (.inl rfl) _).setCell (p := ⟨b, 1, none⟩) (.inl rfl) _).setCell (p := ⟨b, 0, none⟩) (.inl rfl) _
end Go.Proofs.YtjljnfmacechfaaGreatFmt
