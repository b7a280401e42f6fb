/-
  bytes.Buffer: Len and grow, with exact frames.
-/
import Derived.Test.YtmdkpihlhdjjaaaGreatFmtShelf
import Derived.Test.YtmdkpihlhdjjaaaGreatFmtKMaX
import Derived.Test.YtmdkpihlhdjjaaaGreatFmtKMbX
import Derived.Deep.RegionWith
import Derived.Lib.BufferMore
namespace Go.Proofs.YtmdkpihlhdjjaaaGreatFmt
open Go.RowKit

theorem bb_len (b l cap : Nat) (ao : Option Addr) (w : World) (c0 : w.cell? ⟨b, 0, none⟩ = some (.slice ao l cap)) (c1 : w.cell? ⟨b, 1, none⟩ = some (.int .i64 0)) (_hl : l ≤ 140737488355328) :
    Calls Tryz.prog 261 #[.pointer (some ⟨b, 0, none⟩)] w fun e w' => e = .returned (.int .i64 (l : Int)) ∧ ∃ k, w' = w.drewN k := by
  go_enter Tryz.func261, Tryz.ntmps261
  go_wp2
  go_quiet (fail)
  go_wp2
  go_ret
  exact ⟨rfl, _, rfl⟩

/-- What grow leaves: a new row that begins as the old one did and has room for n more. -/
def BbGrown (b : Nat) (w : World) (l : List UInt8) (n : Nat) (lr : Int) (w' : World) : Prop :=
  ∃ (g cap : Nat) (cur : Array Value), w'.heap[b]? = some (.cells #[.slice (some ⟨g, 0, none⟩) (l.length + n) cap, .int .i64 0, .int .i8 lr] 131 (0, 0)) ∧
    w'.heap[g]? = some (.cells cur 5 (0, 0)) ∧ cur.size = cap ∧ cap ≤ maxLen ∧ l.length + n ≤ cap ∧ cur.toList.take l.length = bv l ∧ w.heap.size ≤ g ∧ Upd (fun k => k = b) w w'

set_option maxHeartbeats 4000000 in
set_option maxRecDepth 100000 in
theorem bb_grow_row (b g cap n : Nat) (lr : Int) (cur : Array Value) (l : List UInt8) (w : World)
    (hbk : w.heap[b]? = some (.cells #[.slice (some ⟨g, 0, none⟩) l.length cap, .int .i64 0, .int .i8 lr] 131 (0, 0))) (hg : w.heap[g]? = some (.cells cur 5 (0, 0))) (hlc : l.length ≤ cap) (hcm : cap ≤ maxLen)
    (hcs : cur.size = cap) (htk : cur.toList.take l.length = bv l) (hn : 1 ≤ n) (hroom : cap - l.length < n) (hlim : l.length + n ≤ 140737488355328) :
    Calls Tryz.prog 260 #[.pointer (some ⟨b, 0, none⟩), .int .i64 (n : Int)] w fun e w' => e = .returned (.int .i64 (l.length : Int)) ∧ BbGrown b w l n lr w' := by
  have hnil : ∀ W, (binOp .eql 31 (.slice (some ⟨g, 0, none⟩) l.length cap) (.slice none 0 0)).run Tryz.prog W = .ok (.bool false) W := fun W => Lib.run_eql_slice_some_nil W _ _ _ Tryz.underlying31
  have c0 : w.cell? ⟨b, 0, none⟩ = some (.slice (some ⟨g, 0, none⟩) l.length cap) := cell_at hbk 0
  have c1 : w.cell? ⟨b, 1, none⟩ = some (.int .i64 0) := cell_at hbk 1
  have f0 : w.frozen? ⟨b, 0, none⟩ = false := frozen_at hbk 0
  have f1 : w.frozen? ⟨b, 1, none⟩ = false := frozen_at hbk 1
  have hcm' := hcm
  unfold maxLen at hcm'
  have hc2 : cap ≤ 140737488355328 := by omega
  have h1' : ∀ v ∈ cur.toList.take l.length, v.oneCell' = true := by rw [htk]; exact bv_oneCell l
  have hwn : IntKind.i64.wrap (n : Int) = n := by rw [IntKind.wrap_i64]; omega
  have HBk := Lib.hid hbk; clear hbk
  have HG := Lib.hid hg; clear hg
  have HTk := Lib.hid htk; clear htk
  have HCs := Lib.hid hcs; clear hcs
  have H1 := Lib.hid h1'; clear h1'
  rcases Bool.eq_false_or_eq_true ((l.length : Int) == 0) with hz | hz
  all_goals
    go_enter Tryz.func260, Tryz.ntmps260
    go_wp2_with (go_at_call 261; refine (bb_len b l.length cap _ _ c0 c1 (by omega)).mono ?_)
    rintro e w1 ⟨rfl, k1, hw1⟩
    have d0 : w1.cell? ⟨b, 0, none⟩ = some (.slice (some ⟨g, 0, none⟩) l.length cap) := hw1 ▸ c0
    have d1 : w1.cell? ⟨b, 1, none⟩ = some (.int .i64 0) := hw1 ▸ c1
    have hh1 : w1.heap = w.heap := by rw [hw1]; rfl
    have HBk1 := Lib.hid ((congrArg (·[b]?) hh1).trans HBk.out)
    have HG1 := Lib.hid ((congrArg (·[g]?) hh1).trans HG.out)
    have HH1 := Lib.hid hh1; clear hh1
    have HU1 := Lib.hid (show Upd (fun k => k = b) w w1 from hw1 ▸ (Upd.refl _ w).drewN k1)
    clear hw1
    go_wp2_with (go_at_call 259; refine (Go.Proofs.Tryz.Buffer_tryGrow_none b (some ⟨g, 0, none⟩) l.length cap n _ ?_ hlc hcm hroom).mono ?_; exact d0; rintro e w1 ⟨rfl, rfl⟩)
    go_region_with (
      go_at_call 262
      refine (Go.Proofs.Tryz.bytes_growSlice_row g l.length cap n cur _ ?_ HCs.out hlc hn hlim hc2 H1.out).mono ?_
      exact HG1.out
      rintro e w2 ⟨cap2, cells, rfl, hN, hcsz, htk2, hcap2, hcm2, hbel⟩
      have HB2 := Lib.hid ((hbel.block b (heap_lt HBk1.out)).trans HBk1.out)
      have d0 : w2.cell? ⟨b, 0, none⟩ = some (.slice (some ⟨g, 0, none⟩) l.length cap) := cell_at HB2.out 0
      have d1 : w2.cell? ⟨b, 1, none⟩ = some (.int .i64 0) := cell_at HB2.out 1
      have e0 : w2.frozen? ⟨b, 0, none⟩ = false := frozen_at HB2.out 0
      have e1 : w2.frozen? ⟨b, 1, none⟩ = false := frozen_at HB2.out 1
      have HN := Lib.hid hN
      clear hN
      have HBel := Lib.hid hbel
      clear hbel
      have HTk2 := Lib.hid htk2
      clear htk2
      have HSz2 := Lib.hid hcsz
      clear hcsz)
    all_goals
      go_wp2
      go_ret
      have hsz := HBel.out.size
      have hh : w1.heap.size = w.heap.size := congrArg Array.size HH1.out
      have hdr : w1.drew.heap.size = w1.heap.size := rfl
      have hbs := heap_lt HBk1.out
      have hN : w2.heap[w1.heap.size]? = some (.cells cells 5 (0, 0)) := HN.out
      have hbn : ¬ w1.heap.size = b := by omega
      refine ⟨rfl, w1.heap.size, cap2, cells, ?_, ?_, HSz2.out, hcm2, hcap2, HTk2.out.trans HTk.out, by omega, ?_⟩
      · refine (heap_setCell_at _ (heap_setCell_at _ (heap_setCell_at _ HB2.out))).trans ?_
        simp
      · exact (Below.heap_setCell _ _ _ _ hbn).trans ((Below.heap_setCell _ _ _ _ hbn).trans ((Below.heap_setCell _ _ _ _ hbn).trans hN))
      · have h2 : Upd (fun k => k = b) w w2 := HU1.out.drew.trans (Upd.of_below HBel.out _)
        exact ((h2.setCell (p := ⟨b, 0, none⟩) (.inl rfl) _).setCell (p := ⟨b, 1, none⟩) (.inl rfl) _).setCell (p := ⟨b, 0, none⟩) (.inl rfl) _
end Go.Proofs.YtmdkpihlhdjjaaaGreatFmt
