/-
  n010_39.FnPrintRefusesComment: the walk.
-/
import Derived.Test.YtmopcbjmeepinaaGreatFmtRRRQz
import Derived.Test.YtmopcbjmeepinaaGreatFmtRRRQCY
import GoSem.ClaimData
namespace Go.Proofs.YtmopcbjmeepinaaGreatFmtRRR
open Go.RowKit

set_option maxRecDepth 100000 in
theorem qc_bytes (s : ByteArray) (a b c : Value) (w : World) : Calls Tryz.prog 12 #[.string s, a, b, c] w fun e w' => e = .returned (.bool (decide (s.size ≤ 1048576))) ∧ w' = w := by
  by_cases h : s.size ≤ 1048576
  · have hI : (s.size : Int) ≤ 1048576 := by omega
    rw [decide_eq_true h]
    clear h
    go_enter Tryz.func12, Tryz.ntmps12
    go_wp2
    go_ret
    exact ⟨rfl, rfl⟩
  · have hI : (1048576 : Int) < (s.size : Int) := by omega
    rw [decide_eq_false h]
    clear h
    go_enter Tryz.func12, Tryz.ntmps12
    go_wp2
    go_ret
    exact ⟨rfl, rfl⟩

set_option maxRecDepth 100000 in
set_option maxHeartbeats 8000000 in
theorem qc_main (s : ByteArray) (k : Nat) (mi si : Bool) (w : World) (_ : s.size ≤ maxLen) :
    Calls Tryz.prog 3 #[.string s, .int .u64 (k : Int), .bool mi, .bool si] w fun e w' => e = .returned (.bool true) ∧ Below w.heap.size w w' := by
  have HB := Lib.hid (fun W => qc_bytes s (.int .u64 (k : Int)) (.bool mi) (.bool si) W)
  by_cases hz : s.size ≤ 1048576
  · rw [decide_eq_true hz] at HB
    by_cases hs2 : s.size ≤ 65536
    · have hsI : (s.size : Int) ≤ 65536 := by omega
      by_cases hk : k ≤ 1073741824
      · have hkI : (k : Int) ≤ 1073741824 := by omega
        obtain ⟨W, hW⟩ : ∃ W, W = (qc_boxes w.heap.size k mi si).foldl World.alloc w := ⟨_, rfl⟩
        have hn := qc_new k mi si w
        rw [← hW] at hn
        have HN := Lib.hid hn
        clear hn
        simp only [qc_boxes, List.foldl_cons, List.foldl_nil] at hW
        clear hz hs2
        go_enter Tryz.func3, Tryz.ntmps3
        go_wp2_with (first
          | (go_at_call 12; refine (HB.out _).mono ?_; rintro e w1 ⟨rfl, hw⟩; obtain rfl := hw.symm)
          | (go_at_call 14; refine (mk_in _ _).mono ?_; rintro e w1 ⟨rfl, rfl⟩)
          | (go_at_call 15; refine (mk_mi _ _).mono ?_; rintro e w1 ⟨rfl, rfl⟩)
          | (go_at_call 16; refine (mk_si _ _).mono ?_; rintro e w1 ⟨rfl, rfl⟩)
          | (go_at_call 13; rw [← hW]; refine HN.out.mono ?_))
        rintro e w1 ⟨pb, rfl, b, tb, O, hA, hO, hu⟩
        clear hW
        have hlt := hA.lt
        have hu0 : Upd (fun _ => False) w1 ((w1.alloc (.cells #[.slice none 0 0] 33)).alloc (.cells #[.int .u32 0, .int .u32 0, .string s] 42)) := ((Upd.refl _ w1).alloc _).alloc _
        have hB : ((w1.alloc (.cells #[.slice none 0 0] 33)).alloc (.cells #[.int .u32 0, .int .u32 0, .string s] 42)).heap[w1.heap.size]? = some (.cells #[.slice none 0 0] 33 (0, 0)) := (Below.heap_alloc _ _ _ (by simp)).trans (heap_alloc_new w1 _)
        have hA0 := hA.stable hu0 fun _ _ h => h
        have hI := zs_zero hB
        have hOB : ∀ j, O j → ¬ j = w1.heap.size := fun j hj e => by have := hlt j hj; omega
        have HO := Lib.hid (And.intro hO (And.intro hu hu0))
        have hend : ∀ w2, Upd (fun j => O j ∨ j = w1.heap.size) _ w2 → Below w.heap.size w w2 := fun w2 hu2 => by
          obtain ⟨hO, hu, hu0⟩ := HO.out
          have hzz := hu.size
          have hA : Upd (fun j => w.heap.size ≤ j) w w2 := ((hu.mono fun _ h => h.elim).trans (hu0.mono fun _ h => h.elim)).trans (hu2.mono fun j hj => by
            rcases hj with h | h
            · exact hO j h
            · omega)
          exact hA.below (fun j hj => hj) (Nat.le_refl _)
        have HEnd := Lib.hid hend
        clear hend
        cases hms : mi && si
        · obtain ⟨Q, HQ, HC⟩ := callsVar (pg_comment (S := zsS w1.heap.size) (Fs := fun j => j = w1.heap.size) (zs_law _) (fun _ => rfl) hA0 rfl hms hk hI hOB (w1.heap.size + 1))
          clear hA hO hu hlt hu0 hB hA0 hI hOB
          go_wp2_with (go_at_call 17; refine HC.out.mono ?_)
          rintro e w2 hq
          obtain ⟨⟨t, x, rfl⟩, s', O', F', _, _, ⟨v, hbz, hvz, hvn, _⟩, _, _, hu2⟩ := HQ.out e w2 hq
          clear hq
          obtain ⟨vo, vc, rfl⟩ : ∃ ao c, v = .slice ao 0 c := hvz.form
          have c0 : w2.cell? ⟨w1.heap.size, 0, none⟩ = some (.slice vo 0 vc) := cell_at hbz 0
          have HU2 := Lib.hid hu2
          clear hbz hvz hvn hu2
          go_wp2_with fail
          go_ret
          exact ⟨rfl, HEnd.out _ HU2.out⟩
        · obtain ⟨Q, HQ, HC⟩ := callsVar (pe_Print_no (S := zsS w1.heap.size) hA0 hms (.iface 37 (.pointer (some ⟨w1.heap.size + 1, 0, none⟩))))
          have HI := Lib.hid hI
          have HOB := Lib.hid hOB
          clear hA hO hu hlt hu0 hB hA0 hI hOB
          go_wp2_with (go_at_call 17; refine HC.out.mono ?_)
          rintro e w2 hq
          obtain ⟨⟨t, x, rfl⟩, s', _, _, hu2⟩ := HQ.out e w2 hq
          clear hq
          obtain ⟨v, hbz, hvz, hvn, _⟩ := (zs_law w1.heap.size).stable HI.out hu2 fun j hj ho => HOB.out j ho hj
          obtain ⟨vo, vc, rfl⟩ : ∃ ao c, v = .slice ao 0 c := hvz.form
          have c0 : w2.cell? ⟨w1.heap.size, 0, none⟩ = some (.slice vo 0 vc) := cell_at hbz 0
          have HU2 := Lib.hid hu2
          clear hbz hvz hvn hu2
          go_wp2_with fail
          go_ret
          exact ⟨rfl, HEnd.out _ (HU2.out.mono fun _ h => .inl h)⟩
      · have hkI : (1073741824 : Int) < (k : Int) := by omega
        clear hz hs2
        go_enter Tryz.func3, Tryz.ntmps3
        go_wp2_with (go_at_call 12; refine (HB.out _).mono ?_; rintro e w1 ⟨rfl, hw⟩; obtain rfl := hw.symm)
        go_ret
        exact ⟨rfl, Below.refl _ _⟩
    · have hsI : (65536 : Int) < (s.size : Int) := by omega
      clear hz hs2
      go_enter Tryz.func3, Tryz.ntmps3
      go_wp2_with (go_at_call 12; refine (HB.out _).mono ?_; rintro e w1 ⟨rfl, hw⟩; obtain rfl := hw.symm)
      go_ret
      exact ⟨rfl, Below.refl _ _⟩
  · rw [decide_eq_false hz] at HB
    clear hz
    go_enter Tryz.func3, Tryz.ntmps3
    go_wp2_with (go_at_call 12; refine (HB.out _).mono ?_; rintro e w1 ⟨rfl, hw⟩; obtain rfl := hw.symm)
    go_ret
    exact ⟨rfl, Below.refl _ _⟩
end Go.Proofs.YtmopcbjmeepinaaGreatFmtRRR
