/-
  n010_67: flagScript; the laws FnMinifyScript, FnSingleLineScript, FnFunctionNextLineScript: whatever the input, true.
-/
import Derived.Test.YtdfgcopelfmcmaaGreatFmtN67B
namespace Go.Proofs.YtdfgcopelfmcmaaGreatFmt
open Go.RowKit

theorem PS4_k (keep mi si fn : Bool) : (PS4 keep mi si fn).k = 0 := by cases keep <;> rfl
theorem PS4_kp (keep mi si fn : Bool) : (PS4 keep mi si fn).kp = keep := by cases keep <;> rfl

set_option maxRecDepth 100000 in
set_option maxHeartbeats 4000000 in
theorem flagScriptMi (keep mi si fn : Bool) {v : Value} {L : List Bool} {w : World} (hv : BoolsRd w v L) (hl : L.length ≤ 4096) :
    Calls Tryz.prog 13 #[.int .i64 0, .bool keep, .bool mi, .bool si, .bool fn, v] w fun e w' => e = .returned (.bool true) ∧ Upd (fun k => w.heap.size ≤ k) w w' := by
  obtain ⟨vo, vc, rfl⟩ : ∃ ao c, v = .slice ao L.length c := by
    rcases hv with ⟨rfl, rfl⟩ | ⟨a, c, rfl, _⟩
    · exact ⟨none, 0, rfl⟩
    · exact ⟨some a, c, rfl⟩
  have HN := Lib.hid (new4 keep mi si fn w)
  have HV := Lib.hid hv
  have hlI : (L.length : Int) ≤ 4096 := by omega
  clear hv
  go_enter Tryz.func13, Tryz.ntmps13
  go_wp2_with (go_at_call 9; refine HN.out.mono ?_)
  rintro e w1 ⟨pb, rfl, b, tb, O, hA, hO, hu⟩
  have HO := Lib.hid (And.intro hO hu)
  have HA := Lib.hid hA
  clear hA hO hu
  go_wp2_with fail
  go_loopg [15, 16, 17, 18] L.length (fun k v15 v16 v17 v18 wr => ∃ (s : PS) (i : Nat), s.kp = keep ∧ v15 = .bool s.mi ∧ v16 = .bool s.si ∧ v17 = .bool s.fnl ∧ v18 = .int .i64 (i : Int) ∧ i + k = L.length ∧ PrAny pb b tb s wr O ∧ s.k = 0 ∧ Upd O w1 wr)
  case atStart => exact ⟨PS4 keep mi si fn, 0, PS4_kp _ _ _ _, rfl, rfl, rfl, rfl, by omega, HA.out, PS4_k _ _ _ _, Upd.refl _ _⟩
  case round =>
    obtain ⟨s, i, hkp, rfl, rfl, rfl, rfl, hik, hA, hk0, hu⟩ := hrel
    have HIK := Lib.hid hik; clear hik
    by_cases hlt : i < L.length
    · have hltI : (i : Int) < (L.length : Int) := by omega
      have HU := Lib.hid hu
      obtain ⟨a, rfl⟩ : ∃ a, vo = some a := by
        rcases HV.out with ⟨h1, h2⟩ | ⟨a, c, h1, _⟩
        · rw [h2] at hlt; exact absurd hlt (by simp)
        · injection h1 with h1; exact ⟨a, h1⟩
      have hcell : wr.cell? (a.add i) = some (.bool L[i]) := by
        rcases HV.out with ⟨h1, _⟩ | ⟨a', c', h1, _, h3⟩
        · cases h1
        · injection h1 with h1
          injection h1 with h1
          subst h1
          have h4 := h3 i L[i] (List.getElem?_eq_getElem hlt)
          have h5 := World.block_lt_of_cell? w _ h4
          exact hu.cell (HO.out.2.cell h4 fun h => h) fun h => by have := HO.out.1 _ h; omega
      obtain ⟨Q, HQ, HC⟩ := callsVar (apply_mi L[i] hA)
      clear hA hu
      go_wp2_with (go_at_call 33; refine HC.out.mono ?_)
      rintro e w2 hq
      obtain ⟨rfl, h1, h2⟩ := HQ.out e w2 hq
      clear hq
      have H1 := Lib.hid (And.intro h1 h2)
      clear h1 h2
      go_wp2_with fail
      go_roundg (L.length - (i + 1))
      case measure => have := HIK.out; omega
      case rel => exact ⟨optMi L[i] s, i + 1, hkp, rfl, rfl, rfl, by go_num, by omega, H1.out.1, hk0, HU.out.trans H1.out.2⟩
    · obtain rfl : i = L.length := by have := HIK.out; omega
      have hfl := read_flags hA
      rw [hkp] at hfl
      obtain ⟨Q1, HQ1, HC1⟩ := callsVar hfl
      have HA := Lib.hid hA
      have HU := Lib.hid hu
      clear hA hu hfl
      go_wp2_with (go_at_call 18; refine HC1.out.mono ?_)
      rintro e w2 hq
      obtain ⟨rfl, hu2⟩ := HQ1.out e w2 hq
      clear hq
      have hA2 := HA.out.stable hu2 fun _ _ h => h
      have HIs := Lib.hid (is_col hA2)
      rw [hkp] at HIs
      obtain ⟨Q2, HQ2, HC2⟩ := callsVar (empty_ok hA2 (by rw [hk0]; decide))
      have HU2 := Lib.hid hu2
      clear hA2 hu2
      go_wp2_with (first
        | (go_at_call 19; refine HIs.out.mono ?_; rintro e w3 ⟨rfl, rfl⟩)
        | (go_at_call 10; refine HC2.out.mono ?_))
      rintro e w4 hq
      obtain ⟨rfl, s', O', _, _, _, hu4⟩ := HQ2.out e w4 hq
      clear hq
      have HU4 := Lib.hid hu4
      clear hu4
      go_wp2_with fail
      go_ret
      obtain ⟨hO, hu1⟩ := HO.out
      exact ⟨rfl, (((hu1.mono fun _ h => h.elim).trans (HU.out.mono hO)).trans (HU2.out.mono fun _ h => h.elim)).trans (HU4.out.mono hO)⟩

set_option maxRecDepth 100000 in
set_option maxHeartbeats 1000000 in
theorem bytesMi (keep mi si fn : Bool) {v : Value} {L : List Bool} {w : World} (hv : BoolsRd w v L) (hl : L.length ≤ maxLen) :
    Calls Tryz.prog 14 #[.bool keep, .bool mi, .bool si, .bool fn, v] w fun e w' => e = .returned (.bool (decide (L.length ≤ 1048576))) ∧ w' = w := by
  obtain ⟨vo, vc, rfl⟩ : ∃ ao c, v = .slice ao L.length c := by
    rcases hv with ⟨rfl, rfl⟩ | ⟨a, c, rfl, _⟩
    · exact ⟨none, 0, rfl⟩
    · exact ⟨some a, c, rfl⟩
  clear hv
  unfold maxLen at hl
  by_cases h : L.length ≤ 1048576
  all_goals
    have h1 : (L.length : Int) ≤ 9223372036854775807 := by omega
    have h2 : decide ((L.length : Int) > 1048576) = !decide (L.length ≤ 1048576) := by simp [h]; omega
    simp only [h, decide_true, decide_false, Bool.not_true, Bool.not_false] at h2 ⊢
    go_enter Tryz.func14, Tryz.ntmps14
    go_wp2
    go_ret
    exact ⟨rfl, rfl⟩

set_option maxRecDepth 100000 in
set_option maxHeartbeats 1000000 in
theorem scriptMi (keep mi si fn : Bool) (v : Value) (L : List Bool) (w : World) (hv : BoolsRd w v L) (hl : L.length ≤ maxLen) :
    Calls Tryz.prog 5 #[.bool keep, .bool mi, .bool si, .bool fn, v] w fun e w' => e = .returned (.bool true) ∧ Below w.heap.size w w' := by
  have hv0 := hv
  obtain ⟨vo, vc, rfl⟩ : ∃ ao c, v = .slice ao L.length c := by
    rcases hv with ⟨rfl, rfl⟩ | ⟨a, c, rfl, _⟩
    · exact ⟨none, 0, rfl⟩
    · exact ⟨some a, c, rfl⟩
  have HBy := Lib.hid (bytesMi keep mi si fn hv0 hl)
  have hm : (L.length : Int) ≤ 9223372036854775807 := by unfold maxLen at hl; omega
  by_cases h1 : L.length ≤ 1048576
  · rw [decide_eq_true h1] at HBy
    by_cases h2 : L.length ≤ 4096
    · have h2I : (L.length : Int) ≤ 4096 := by omega
      have HC := Lib.hid (copy_bools hv0 h2)
      clear hv hv0 hl
      go_enter Tryz.func5, Tryz.ntmps5
      go_wp2_with (first
        | (go_at_call 14; refine HBy.out.mono ?_; rintro e w1 ⟨rfl, rfl⟩)
        | (go_at_call 12; refine HC.out.mono ?_))
      rintro e w1 ⟨v', rfl, hv', hu1⟩
      obtain ⟨Q, HQ, HF⟩ := callsVar (flagScriptMi keep mi si fn hv' h2)
      have HU1 := Lib.hid hu1
      clear hv' hu1
      go_wp2_with (go_at_call 13; refine HF.out.mono ?_)
      rintro e w2 hq
      obtain ⟨rfl, hu2⟩ := HQ.out e w2 hq
      clear hq
      have HU2 := Lib.hid hu2
      clear hu2
      go_wp2_with fail
      go_ret
      have hz := HU1.out.size
      exact ⟨rfl, ((HU1.out.mono (G := fun k => w1.heap.size ≤ k) fun _ h => h.elim).trans HU2.out).below (fun k hk => by omega) (Nat.le_refl _)⟩
    · have h2I : (4096 : Int) < (L.length : Int) := by omega
      clear hv hv0 hl
      go_enter Tryz.func5, Tryz.ntmps5
      go_wp2_with (go_at_call 14; refine HBy.out.mono ?_; rintro e w1 ⟨rfl, rfl⟩)
      go_ret
      exact ⟨rfl, Below.refl _ _⟩
  · rw [decide_eq_false h1] at HBy
    clear hv hv0 hl
    go_enter Tryz.func5, Tryz.ntmps5
    go_wp2_with (go_at_call 14; refine HBy.out.mono ?_; rintro e w1 ⟨rfl, rfl⟩)
    go_ret
    exact ⟨rfl, Below.refl _ _⟩

set_option maxRecDepth 100000 in
set_option maxHeartbeats 4000000 in
theorem flagScriptSi (keep mi si fn : Bool) {v : Value} {L : List Bool} {w : World} (hv : BoolsRd w v L) (hl : L.length ≤ 4096) :
    Calls Tryz.prog 13 #[.int .i64 1, .bool keep, .bool mi, .bool si, .bool fn, v] w fun e w' => e = .returned (.bool true) ∧ Upd (fun k => w.heap.size ≤ k) w w' := by
  obtain ⟨vo, vc, rfl⟩ : ∃ ao c, v = .slice ao L.length c := by
    rcases hv with ⟨rfl, rfl⟩ | ⟨a, c, rfl, _⟩
    · exact ⟨none, 0, rfl⟩
    · exact ⟨some a, c, rfl⟩
  have HN := Lib.hid (new4 keep mi si fn w)
  have HV := Lib.hid hv
  have hlI : (L.length : Int) ≤ 4096 := by omega
  clear hv
  go_enter Tryz.func13, Tryz.ntmps13
  go_wp2_with (go_at_call 9; refine HN.out.mono ?_)
  rintro e w1 ⟨pb, rfl, b, tb, O, hA, hO, hu⟩
  have HO := Lib.hid (And.intro hO hu)
  have HA := Lib.hid hA
  clear hA hO hu
  go_wp2_with fail
  go_loopg [15, 16, 17, 18] L.length (fun k v15 v16 v17 v18 wr => ∃ (s : PS) (i : Nat), s.kp = keep ∧ v15 = .bool s.mi ∧ v16 = .bool s.si ∧ v17 = .bool s.fnl ∧ v18 = .int .i64 (i : Int) ∧ i + k = L.length ∧ PrAny pb b tb s wr O ∧ s.k = 0 ∧ Upd O w1 wr)
  case atStart => exact ⟨PS4 keep mi si fn, 0, PS4_kp _ _ _ _, rfl, rfl, rfl, rfl, by omega, HA.out, PS4_k _ _ _ _, Upd.refl _ _⟩
  case round =>
    obtain ⟨s, i, hkp, rfl, rfl, rfl, rfl, hik, hA, hk0, hu⟩ := hrel
    have HIK := Lib.hid hik; clear hik
    by_cases hlt : i < L.length
    · have hltI : (i : Int) < (L.length : Int) := by omega
      have HU := Lib.hid hu
      obtain ⟨a, rfl⟩ : ∃ a, vo = some a := by
        rcases HV.out with ⟨h1, h2⟩ | ⟨a, c, h1, _⟩
        · rw [h2] at hlt; exact absurd hlt (by simp)
        · injection h1 with h1; exact ⟨a, h1⟩
      have hcell : wr.cell? (a.add i) = some (.bool L[i]) := by
        rcases HV.out with ⟨h1, _⟩ | ⟨a', c', h1, _, h3⟩
        · cases h1
        · injection h1 with h1
          injection h1 with h1
          subst h1
          have h4 := h3 i L[i] (List.getElem?_eq_getElem hlt)
          have h5 := World.block_lt_of_cell? w _ h4
          exact hu.cell (HO.out.2.cell h4 fun h => h) fun h => by have := HO.out.1 _ h; omega
      obtain ⟨Q, HQ, HC⟩ := callsVar (apply_si L[i] hA)
      clear hA hu
      go_wp2_with (go_at_call 34; refine HC.out.mono ?_)
      rintro e w2 hq
      obtain ⟨rfl, h1, h2⟩ := HQ.out e w2 hq
      clear hq
      have H1 := Lib.hid (And.intro h1 h2)
      clear h1 h2
      go_wp2_with fail
      go_roundg (L.length - (i + 1))
      case measure => have := HIK.out; omega
      case rel => exact ⟨optSi L[i] s, i + 1, hkp, rfl, rfl, rfl, by go_num, by omega, H1.out.1, hk0, HU.out.trans H1.out.2⟩
    · obtain rfl : i = L.length := by have := HIK.out; omega
      have hfl := read_flags hA
      rw [hkp] at hfl
      obtain ⟨Q1, HQ1, HC1⟩ := callsVar hfl
      have HA := Lib.hid hA
      have HU := Lib.hid hu
      clear hA hu hfl
      go_wp2_with (go_at_call 18; refine HC1.out.mono ?_)
      rintro e w2 hq
      obtain ⟨rfl, hu2⟩ := HQ1.out e w2 hq
      clear hq
      have hA2 := HA.out.stable hu2 fun _ _ h => h
      have HIs := Lib.hid (is_col hA2)
      rw [hkp] at HIs
      obtain ⟨Q2, HQ2, HC2⟩ := callsVar (empty_ok hA2 (by rw [hk0]; decide))
      have HU2 := Lib.hid hu2
      clear hA2 hu2
      go_wp2_with (first
        | (go_at_call 19; refine HIs.out.mono ?_; rintro e w3 ⟨rfl, rfl⟩)
        | (go_at_call 10; refine HC2.out.mono ?_))
      rintro e w4 hq
      obtain ⟨rfl, s', O', _, _, _, hu4⟩ := HQ2.out e w4 hq
      clear hq
      have HU4 := Lib.hid hu4
      clear hu4
      go_wp2_with fail
      go_ret
      obtain ⟨hO, hu1⟩ := HO.out
      exact ⟨rfl, (((hu1.mono fun _ h => h.elim).trans (HU.out.mono hO)).trans (HU2.out.mono fun _ h => h.elim)).trans (HU4.out.mono hO)⟩

set_option maxRecDepth 100000 in
set_option maxHeartbeats 1000000 in
theorem bytesSi (keep mi si fn : Bool) {v : Value} {L : List Bool} {w : World} (hv : BoolsRd w v L) (hl : L.length ≤ maxLen) :
    Calls Tryz.prog 15 #[.bool keep, .bool mi, .bool si, .bool fn, v] w fun e w' => e = .returned (.bool (decide (L.length ≤ 1048576))) ∧ w' = w := by
  obtain ⟨vo, vc, rfl⟩ : ∃ ao c, v = .slice ao L.length c := by
    rcases hv with ⟨rfl, rfl⟩ | ⟨a, c, rfl, _⟩
    · exact ⟨none, 0, rfl⟩
    · exact ⟨some a, c, rfl⟩
  clear hv
  unfold maxLen at hl
  by_cases h : L.length ≤ 1048576
  all_goals
    have h1 : (L.length : Int) ≤ 9223372036854775807 := by omega
    have h2 : decide ((L.length : Int) > 1048576) = !decide (L.length ≤ 1048576) := by simp [h]; omega
    simp only [h, decide_true, decide_false, Bool.not_true, Bool.not_false] at h2 ⊢
    go_enter Tryz.func15, Tryz.ntmps15
    go_wp2
    go_ret
    exact ⟨rfl, rfl⟩

set_option maxRecDepth 100000 in
set_option maxHeartbeats 1000000 in
theorem scriptSi (keep mi si fn : Bool) (v : Value) (L : List Bool) (w : World) (hv : BoolsRd w v L) (hl : L.length ≤ maxLen) :
    Calls Tryz.prog 6 #[.bool keep, .bool mi, .bool si, .bool fn, v] w fun e w' => e = .returned (.bool true) ∧ Below w.heap.size w w' := by
  have hv0 := hv
  obtain ⟨vo, vc, rfl⟩ : ∃ ao c, v = .slice ao L.length c := by
    rcases hv with ⟨rfl, rfl⟩ | ⟨a, c, rfl, _⟩
    · exact ⟨none, 0, rfl⟩
    · exact ⟨some a, c, rfl⟩
  have HBy := Lib.hid (bytesSi keep mi si fn hv0 hl)
  have hm : (L.length : Int) ≤ 9223372036854775807 := by unfold maxLen at hl; omega
  by_cases h1 : L.length ≤ 1048576
  · rw [decide_eq_true h1] at HBy
    by_cases h2 : L.length ≤ 4096
    · have h2I : (L.length : Int) ≤ 4096 := by omega
      have HC := Lib.hid (copy_bools hv0 h2)
      clear hv hv0 hl
      go_enter Tryz.func6, Tryz.ntmps6
      go_wp2_with (first
        | (go_at_call 15; refine HBy.out.mono ?_; rintro e w1 ⟨rfl, rfl⟩)
        | (go_at_call 12; refine HC.out.mono ?_))
      rintro e w1 ⟨v', rfl, hv', hu1⟩
      obtain ⟨Q, HQ, HF⟩ := callsVar (flagScriptSi keep mi si fn hv' h2)
      have HU1 := Lib.hid hu1
      clear hv' hu1
      go_wp2_with (go_at_call 13; refine HF.out.mono ?_)
      rintro e w2 hq
      obtain ⟨rfl, hu2⟩ := HQ.out e w2 hq
      clear hq
      have HU2 := Lib.hid hu2
      clear hu2
      go_wp2_with fail
      go_ret
      have hz := HU1.out.size
      exact ⟨rfl, ((HU1.out.mono (G := fun k => w1.heap.size ≤ k) fun _ h => h.elim).trans HU2.out).below (fun k hk => by omega) (Nat.le_refl _)⟩
    · have h2I : (4096 : Int) < (L.length : Int) := by omega
      clear hv hv0 hl
      go_enter Tryz.func6, Tryz.ntmps6
      go_wp2_with (go_at_call 15; refine HBy.out.mono ?_; rintro e w1 ⟨rfl, rfl⟩)
      go_ret
      exact ⟨rfl, Below.refl _ _⟩
  · rw [decide_eq_false h1] at HBy
    clear hv hv0 hl
    go_enter Tryz.func6, Tryz.ntmps6
    go_wp2_with (go_at_call 15; refine HBy.out.mono ?_; rintro e w1 ⟨rfl, rfl⟩)
    go_ret
    exact ⟨rfl, Below.refl _ _⟩

set_option maxRecDepth 100000 in
set_option maxHeartbeats 4000000 in
theorem flagScriptFn (keep mi si fn : Bool) {v : Value} {L : List Bool} {w : World} (hv : BoolsRd w v L) (hl : L.length ≤ 4096) :
    Calls Tryz.prog 13 #[.int .i64 2, .bool keep, .bool mi, .bool si, .bool fn, v] w fun e w' => e = .returned (.bool true) ∧ Upd (fun k => w.heap.size ≤ k) w w' := by
  obtain ⟨vo, vc, rfl⟩ : ∃ ao c, v = .slice ao L.length c := by
    rcases hv with ⟨rfl, rfl⟩ | ⟨a, c, rfl, _⟩
    · exact ⟨none, 0, rfl⟩
    · exact ⟨some a, c, rfl⟩
  have HN := Lib.hid (new4 keep mi si fn w)
  have HV := Lib.hid hv
  have hlI : (L.length : Int) ≤ 4096 := by omega
  clear hv
  go_enter Tryz.func13, Tryz.ntmps13
  go_wp2_with (go_at_call 9; refine HN.out.mono ?_)
  rintro e w1 ⟨pb, rfl, b, tb, O, hA, hO, hu⟩
  have HO := Lib.hid (And.intro hO hu)
  have HA := Lib.hid hA
  clear hA hO hu
  go_wp2_with fail
  go_loopg [15, 16, 17, 18] L.length (fun k v15 v16 v17 v18 wr => ∃ (s : PS) (i : Nat), s.kp = keep ∧ v15 = .bool s.mi ∧ v16 = .bool s.si ∧ v17 = .bool s.fnl ∧ v18 = .int .i64 (i : Int) ∧ i + k = L.length ∧ PrAny pb b tb s wr O ∧ s.k = 0 ∧ Upd O w1 wr)
  case atStart => exact ⟨PS4 keep mi si fn, 0, PS4_kp _ _ _ _, rfl, rfl, rfl, rfl, by omega, HA.out, PS4_k _ _ _ _, Upd.refl _ _⟩
  case round =>
    obtain ⟨s, i, hkp, rfl, rfl, rfl, rfl, hik, hA, hk0, hu⟩ := hrel
    have HIK := Lib.hid hik; clear hik
    by_cases hlt : i < L.length
    · have hltI : (i : Int) < (L.length : Int) := by omega
      have HU := Lib.hid hu
      obtain ⟨a, rfl⟩ : ∃ a, vo = some a := by
        rcases HV.out with ⟨h1, h2⟩ | ⟨a, c, h1, _⟩
        · rw [h2] at hlt; exact absurd hlt (by simp)
        · injection h1 with h1; exact ⟨a, h1⟩
      have hcell : wr.cell? (a.add i) = some (.bool L[i]) := by
        rcases HV.out with ⟨h1, _⟩ | ⟨a', c', h1, _, h3⟩
        · cases h1
        · injection h1 with h1
          injection h1 with h1
          subst h1
          have h4 := h3 i L[i] (List.getElem?_eq_getElem hlt)
          have h5 := World.block_lt_of_cell? w _ h4
          exact hu.cell (HO.out.2.cell h4 fun h => h) fun h => by have := HO.out.1 _ h; omega
      obtain ⟨Q, HQ, HC⟩ := callsVar (apply_fn L[i] hA)
      clear hA hu
      go_wp2_with (go_at_call 35; refine HC.out.mono ?_)
      rintro e w2 hq
      obtain ⟨rfl, h1, h2⟩ := HQ.out e w2 hq
      clear hq
      have H1 := Lib.hid (And.intro h1 h2)
      clear h1 h2
      go_wp2_with fail
      go_roundg (L.length - (i + 1))
      case measure => have := HIK.out; omega
      case rel => exact ⟨optFn L[i] s, i + 1, hkp, rfl, rfl, rfl, by go_num, by omega, H1.out.1, hk0, HU.out.trans H1.out.2⟩
    · obtain rfl : i = L.length := by have := HIK.out; omega
      have hfl := read_flags hA
      rw [hkp] at hfl
      obtain ⟨Q1, HQ1, HC1⟩ := callsVar hfl
      have HA := Lib.hid hA
      have HU := Lib.hid hu
      clear hA hu hfl
      go_wp2_with (go_at_call 18; refine HC1.out.mono ?_)
      rintro e w2 hq
      obtain ⟨rfl, hu2⟩ := HQ1.out e w2 hq
      clear hq
      have hA2 := HA.out.stable hu2 fun _ _ h => h
      have HIs := Lib.hid (is_col hA2)
      rw [hkp] at HIs
      obtain ⟨Q2, HQ2, HC2⟩ := callsVar (empty_ok hA2 (by rw [hk0]; decide))
      have HU2 := Lib.hid hu2
      clear hA2 hu2
      go_wp2_with (first
        | (go_at_call 19; refine HIs.out.mono ?_; rintro e w3 ⟨rfl, rfl⟩)
        | (go_at_call 10; refine HC2.out.mono ?_))
      rintro e w4 hq
      obtain ⟨rfl, s', O', _, _, _, hu4⟩ := HQ2.out e w4 hq
      clear hq
      have HU4 := Lib.hid hu4
      clear hu4
      go_wp2_with fail
      go_ret
      obtain ⟨hO, hu1⟩ := HO.out
      exact ⟨rfl, (((hu1.mono fun _ h => h.elim).trans (HU.out.mono hO)).trans (HU2.out.mono fun _ h => h.elim)).trans (HU4.out.mono hO)⟩

set_option maxRecDepth 100000 in
set_option maxHeartbeats 1000000 in
theorem bytesFn (keep mi si fn : Bool) {v : Value} {L : List Bool} {w : World} (hv : BoolsRd w v L) (hl : L.length ≤ maxLen) :
    Calls Tryz.prog 11 #[.bool keep, .bool mi, .bool si, .bool fn, v] w fun e w' => e = .returned (.bool (decide (L.length ≤ 1048576))) ∧ w' = w := by
  obtain ⟨vo, vc, rfl⟩ : ∃ ao c, v = .slice ao L.length c := by
    rcases hv with ⟨rfl, rfl⟩ | ⟨a, c, rfl, _⟩
    · exact ⟨none, 0, rfl⟩
    · exact ⟨some a, c, rfl⟩
  clear hv
  unfold maxLen at hl
  by_cases h : L.length ≤ 1048576
  all_goals
    have h1 : (L.length : Int) ≤ 9223372036854775807 := by omega
    have h2 : decide ((L.length : Int) > 1048576) = !decide (L.length ≤ 1048576) := by simp [h]; omega
    simp only [h, decide_true, decide_false, Bool.not_true, Bool.not_false] at h2 ⊢
    go_enter Tryz.func11, Tryz.ntmps11
    go_wp2
    go_ret
    exact ⟨rfl, rfl⟩

set_option maxRecDepth 100000 in
set_option maxHeartbeats 1000000 in
theorem scriptFn (keep mi si fn : Bool) (v : Value) (L : List Bool) (w : World) (hv : BoolsRd w v L) (hl : L.length ≤ maxLen) :
    Calls Tryz.prog 4 #[.bool keep, .bool mi, .bool si, .bool fn, v] w fun e w' => e = .returned (.bool true) ∧ Below w.heap.size w w' := by
  have hv0 := hv
  obtain ⟨vo, vc, rfl⟩ : ∃ ao c, v = .slice ao L.length c := by
    rcases hv with ⟨rfl, rfl⟩ | ⟨a, c, rfl, _⟩
    · exact ⟨none, 0, rfl⟩
    · exact ⟨some a, c, rfl⟩
  have HBy := Lib.hid (bytesFn keep mi si fn hv0 hl)
  have hm : (L.length : Int) ≤ 9223372036854775807 := by unfold maxLen at hl; omega
  by_cases h1 : L.length ≤ 1048576
  · rw [decide_eq_true h1] at HBy
    by_cases h2 : L.length ≤ 4096
    · have h2I : (L.length : Int) ≤ 4096 := by omega
      have HC := Lib.hid (copy_bools hv0 h2)
      clear hv hv0 hl
      go_enter Tryz.func4, Tryz.ntmps4
      go_wp2_with (first
        | (go_at_call 11; refine HBy.out.mono ?_; rintro e w1 ⟨rfl, rfl⟩)
        | (go_at_call 12; refine HC.out.mono ?_))
      rintro e w1 ⟨v', rfl, hv', hu1⟩
      obtain ⟨Q, HQ, HF⟩ := callsVar (flagScriptFn keep mi si fn hv' h2)
      have HU1 := Lib.hid hu1
      clear hv' hu1
      go_wp2_with (go_at_call 13; refine HF.out.mono ?_)
      rintro e w2 hq
      obtain ⟨rfl, hu2⟩ := HQ.out e w2 hq
      clear hq
      have HU2 := Lib.hid hu2
      clear hu2
      go_wp2_with fail
      go_ret
      have hz := HU1.out.size
      exact ⟨rfl, ((HU1.out.mono (G := fun k => w1.heap.size ≤ k) fun _ h => h.elim).trans HU2.out).below (fun k hk => by omega) (Nat.le_refl _)⟩
    · have h2I : (4096 : Int) < (L.length : Int) := by omega
      clear hv hv0 hl
      go_enter Tryz.func4, Tryz.ntmps4
      go_wp2_with (go_at_call 11; refine HBy.out.mono ?_; rintro e w1 ⟨rfl, rfl⟩)
      go_ret
      exact ⟨rfl, Below.refl _ _⟩
  · rw [decide_eq_false h1] at HBy
    clear hv hv0 hl
    go_enter Tryz.func4, Tryz.ntmps4
    go_wp2_with (go_at_call 11; refine HBy.out.mono ?_; rintro e w1 ⟨rfl, rfl⟩)
    go_ret
    exact ⟨rfl, Below.refl _ _⟩

end Go.Proofs.YtdfgcopelfmcmaaGreatFmt
