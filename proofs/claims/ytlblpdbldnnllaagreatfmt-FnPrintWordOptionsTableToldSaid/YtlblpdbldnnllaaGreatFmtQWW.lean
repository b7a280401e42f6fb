/-
  n010_39.FnPrintWordOptionsTable: the walk.
-/
import Derived.Test.YtlblpdbldnnllaaGreatFmtQz
import Derived.Test.YtlblpdbldnnllaaGreatFmtQWY
import GoSem.ClaimData
namespace Go.Proofs.YtlblpdbldnnllaaGreatFmt
open Go.RowKit

set_option maxRecDepth 100000 in
theorem qw_bytes (s : ByteArray) (a b c d e f g : Value) (w : World) : Calls Tryz.prog 14 #[.string s, a, b, c, d, e, f, g] w fun e w' => e = .returned (.bool (decide (s.size ≤ 1048576))) ∧ w' = w := by
  by_cases h : s.size ≤ 1048576
  · have hI : (s.size : Int) ≤ 1048576 := by omega
    rw [decide_eq_true h]
    clear h
    go_enter Tryz.func14, Tryz.ntmps14
    go_wp2
    go_ret
    exact ⟨rfl, rfl⟩
  · have hI : (1048576 : Int) < (s.size : Int) := by omega
    rw [decide_eq_false h]
    clear h
    go_enter Tryz.func14, Tryz.ntmps14
    go_wp2
    go_ret
    exact ⟨rfl, rfl⟩

set_option maxRecDepth 100000 in
set_option maxHeartbeats 8000000 in
theorem qw_main (s : ByteArray) (k : Nat) (mi si bn sw sr fn : Bool) (w : World) (_ : s.size ≤ maxLen) :
    Calls Tryz.prog 5 #[.string s, .int .u64 (k : Int), .bool mi, .bool si, .bool bn, .bool sw, .bool sr, .bool fn] w fun e w' => e = .returned (.bool true) ∧ Below w.heap.size w w' := by
  have HB := Lib.hid (fun W => qw_bytes s (.int .u64 (k : Int)) (.bool mi) (.bool si) (.bool bn) (.bool sw) (.bool sr) (.bool fn) W)
  by_cases hz : s.size ≤ 1048576
  · rw [decide_eq_true hz] at HB
    have HAl := Lib.hid (fun W => zz_alnum s (by omega) W)
    by_cases hs2 : s.size ≤ 65536
    · have hsI : (s.size : Int) ≤ 65536 := by omega
      by_cases hk : k ≤ 1073741824
      · have hkI : (k : Int) ≤ 1073741824 := by omega
        cases hal : s.data.toList.all isAl
        · rw [hal] at HAl
          clear hz hs2 hal
          go_enter Tryz.func5, Tryz.ntmps5
          go_wp2_with (first
            | (go_at_call 14; refine (HB.out _).mono ?_; rintro e w1 ⟨rfl, hw⟩; obtain rfl := hw.symm)
            | (go_at_call 15; refine (HAl.out _).mono ?_; rintro e w1 ⟨rfl, hw⟩; obtain rfl := hw.symm))
          go_ret
          exact ⟨rfl, Below.refl _ _⟩
        · rw [hal] at HAl
          obtain ⟨W, hW⟩ : ∃ W, W = (qw_boxes w.heap.size k bn sw sr fn mi si).foldl World.alloc w := ⟨_, rfl⟩
          have hn := qw_new k bn sw sr fn mi si w
          rw [← hW] at hn
          have HN := Lib.hid hn
          clear hn
          simp only [qw_boxes, List.foldl_cons, List.foldl_nil] at hW
          have HAll := Lib.hid hal
          have HS2 := Lib.hid hs2
          clear hz hs2 hal
          go_enter Tryz.func5, Tryz.ntmps5
          go_wp2_with (first
            | (go_at_call 14; refine (HB.out _).mono ?_; rintro e w1 ⟨rfl, hw⟩; obtain rfl := hw.symm)
            | (go_at_call 15; refine (HAl.out _).mono ?_; rintro e w1 ⟨rfl, hw⟩; obtain rfl := hw.symm)
            | (go_at_call 17; refine (mk_in _ _).mono ?_; rintro e w1 ⟨rfl, rfl⟩)
            | (go_at_call 18; refine (mk_bn _ _).mono ?_; rintro e w1 ⟨rfl, rfl⟩)
            | (go_at_call 21; refine (mk_fn _ _).mono ?_; rintro e w1 ⟨rfl, rfl⟩)
            | (go_at_call 19; refine (mk_sw _ _).mono ?_; rintro e w1 ⟨rfl, rfl⟩)
            | (go_at_call 20; refine (mk_sr _ _).mono ?_; rintro e w1 ⟨rfl, rfl⟩)
            | (go_at_call 22; refine (mk_mi _ _).mono ?_; rintro e w1 ⟨rfl, rfl⟩)
            | (go_at_call 23; refine (mk_si _ _).mono ?_; rintro e w1 ⟨rfl, rfl⟩)
            | (go_at_call 16; rw [← hW]; refine HN.out.mono ?_))
          rintro e w1 ⟨pb, rfl, b, tb, O, hA, hO, hu⟩
          clear hW
          obtain ⟨hA0, hI, hOB, hu0, hWd⟩ := sink_word hA s
          have HO := Lib.hid (And.intro hO (And.intro hu hu0))
          have hend : ∀ w2, Upd (fun j => O j ∨ j = w1.heap.size) _ w2 → Below w.heap.size w w2 := fun w2 hu2 => by
            obtain ⟨hO, hu, hu0⟩ := HO.out
            have hzz := hu.size
            have hA : Upd (fun j => w.heap.size ≤ j) w w2 := ((hu.mono fun _ h => h.elim).trans (hu0.mono fun _ h => h.elim)).trans (hu2.mono fun j hj => by
              rcases hj with h | h
              · exact hO j h
              · omega)
            exact hA.below (fun j hj => hj) (Nat.le_refl _)
          have HEnd := Lib.hid hend
          clear hend
          cases hms : mi && si
          · obtain ⟨Q, HQ, HC⟩ := callsVar (pg_word (S := zsS w1.heap.size) (Fs := fun j => j = w1.heap.size) (zs_law _) (fun _ => rfl) hA0 rfl hms hk hI hOB hWd (plain_ok HAll.out _) (by rw [plain_size]; have := HS2.out; unfold LIM; omega))
            clear hA hO hu hu0 hA0 hI hOB hWd
            have hfin : ∀ (Q2 : Prop), (mi = false → Q2) → (mi = true → si = false → Q2) → Q2 := fun Q2 h1 h2 => by
              cases hmi : mi
              · exact h1 hmi
              · exact h2 hmi (by rw [hmi] at hms; exact hms)
            have HFin := Lib.hid hfin
            clear hfin hms
            go_wp2_with (first
              | (go_at_call 25; refine (zz_word s _).mono ?_; rintro e w2 ⟨rfl, rfl⟩)
              | (go_at_call 24; refine HC.out.mono ?_))
            rintro e w2 hq
            obtain ⟨rfl, s', O', F', _, _, ⟨v, hbz, hvz, hvn, _⟩, _, _, hu2⟩ := HQ.out e w2 hq
            clear hq
            have c0 : w2.cell? ⟨w1.heap.size, 0, none⟩ = some v := cell_at hbz 0
            have HSame := Lib.hid (same_bytes hvz s (plain_text HAll.out _).symm (by rw [plain_text HAll.out]; have := HS2.out; exact Nat.le_trans this (by decide)))
            have HU2 := Lib.hid hu2
            clear hbz hvz hvn hu2
            refine HFin.out _ (fun h1 => ?_) (fun h1 h2 => ?_)
            · subst h1
              go_wp2_with (go_at_call 26; refine HSame.out.mono ?_; rintro e w3 ⟨rfl, hu3⟩; have HU3 := Lib.hid hu3; clear hu3)
              go_ret
              exact ⟨rfl, HEnd.out _ (HU2.out.trans (HU3.out.mono fun _ h => h.elim))⟩
            · subst h1 h2
              go_wp2_with (go_at_call 26; refine HSame.out.mono ?_; rintro e w3 ⟨rfl, hu3⟩; have HU3 := Lib.hid hu3; clear hu3)
              go_ret
              exact ⟨rfl, HEnd.out _ (HU2.out.trans (HU3.out.mono fun _ h => h.elim))⟩
          · obtain ⟨Q, HQ, HC⟩ := callsVar (pe_Print_no (S := zsS w1.heap.size) hA0 hms (.iface 43 (.pointer (some ⟨w1.heap.size + 1 + 2, 0, none⟩))))
            have HI := Lib.hid hI
            have HOB := Lib.hid hOB
            clear hA hO hu hu0 hA0 hI hOB hWd
            obtain ⟨rfl, rfl⟩ : mi = true ∧ si = true := by simpa using hms
            go_wp2_with (first
              | (go_at_call 25; refine (zz_word s _).mono ?_; rintro e w2 ⟨rfl, rfl⟩)
              | (go_at_call 24; refine HC.out.mono ?_))
            rintro e w2 hq
            obtain ⟨⟨t, x, rfl⟩, s', _, _, hu2⟩ := HQ.out e w2 hq
            clear hq
            obtain ⟨v, hbz, hvz, hvn, _⟩ := (zs_law w1.heap.size).stable HI.out hu2 fun j hj ho => HOB.out j ho hj
            obtain ⟨vo, vc, rfl⟩ : ∃ ao c, v = .slice ao 0 c := hvz.form
            have c0 : w2.cell? ⟨w1.heap.size, 0, none⟩ = some (.slice vo 0 vc) := cell_at hbz 0
            have HU2 := Lib.hid hu2
            clear hbz hvz hvn hu2
            go_wp2_with fail
            go_ret
            exact ⟨rfl, HEnd.out _ (HU2.out.mono fun _ h => .inl h)⟩
      · have hkI : (1073741824 : Int) < (k : Int) := by omega
        clear hz hs2
        go_enter Tryz.func5, Tryz.ntmps5
        go_wp2_with (go_at_call 14; refine (HB.out _).mono ?_; rintro e w1 ⟨rfl, hw⟩; obtain rfl := hw.symm)
        go_ret
        exact ⟨rfl, Below.refl _ _⟩
    · have hsI : (65536 : Int) < (s.size : Int) := by omega
      clear hz hs2
      go_enter Tryz.func5, Tryz.ntmps5
      go_wp2_with (go_at_call 14; refine (HB.out _).mono ?_; rintro e w1 ⟨rfl, hw⟩; obtain rfl := hw.symm)
      go_ret
      exact ⟨rfl, Below.refl _ _⟩
  · rw [decide_eq_false hz] at HB
    clear hz
    go_enter Tryz.func5, Tryz.ntmps5
    go_wp2_with (go_at_call 14; refine (HB.out _).mono ?_; rintro e w1 ⟨rfl, hw⟩; obtain rfl := hw.symm)
    go_ret
    exact ⟨rfl, Below.refl _ _⟩
end Go.Proofs.YtlblpdbldnnllaaGreatFmt
