/-
  n010_67.FnKeepPaddingScript: whatever the input, true.
-/
import Derived.Test.YtdfgcopelfmcmaaGreatFmtN67B
namespace Go.Proofs.YtdfgcopelfmcmaaGreatFmt
open Go.RowKit

theorem optKp_kp (v : Bool) (s : PS) : (optKp v s).kp = v := by
  cases v
  · cases h : s.kp <;> simp [optKp, h]
  · simp [optKp]
theorem optKp_k (v : Bool) (s : PS) : (optKp v s).k = s.k ∧ (optKp v s).mi = s.mi ∧ (optKp v s).si = s.si ∧ (optKp v s).fnl = s.fnl := by
  cases v
  · cases h : s.kp <;> simp [optKp, h]
  · simp [optKp]

set_option maxRecDepth 100000 in
set_option maxHeartbeats 1000000 in
theorem bytesKp (start : Bool) {v : Value} {L : List Bool} {w : World} (hv : BoolsRd w v L) (hl : L.length ≤ maxLen) :
    Calls Tryz.prog 16 #[.bool start, v] w fun e w' => e = .returned (.bool (decide (L.length ≤ 1048576))) ∧ w' = w := by
  obtain ⟨vo, vc, rfl⟩ : ∃ ao c, v = .slice ao L.length c := by
    rcases hv with ⟨rfl, rfl⟩ | ⟨a, c, rfl, _⟩
    · exact ⟨none, 0, rfl⟩
    · exact ⟨some a, c, rfl⟩
  clear hv
  unfold maxLen at hl
  by_cases h : L.length ≤ 1048576
  all_goals
    have h1 : (L.length : Int) ≤ 9223372036854775807 := by omega
    have h2 : decide ((L.length : Int) > 1048576) = !decide (L.length ≤ 1048576) := by simp [h]; omega
    simp only [h, decide_true, decide_false, Bool.not_true, Bool.not_false] at h2 ⊢
    go_enter Tryz.func16, Tryz.ntmps16
    go_wp2
    go_ret
    exact ⟨rfl, rfl⟩

set_option maxRecDepth 100000 in
set_option maxHeartbeats 4000000 in
theorem scriptKp (start : Bool) (v : Value) (L : List Bool) (w : World) (hv : BoolsRd w v L) (hl : L.length ≤ maxLen) :
    Calls Tryz.prog 7 #[.bool start, v] w fun e w' => e = .returned (.bool true) ∧ Below w.heap.size w w' := by
  have hv0 := hv
  obtain ⟨vo, vc, rfl⟩ : ∃ ao c, v = .slice ao L.length c := by
    rcases hv with ⟨rfl, rfl⟩ | ⟨a, c, rfl, _⟩
    · exact ⟨none, 0, rfl⟩
    · exact ⟨some a, c, rfl⟩
  have HBy := Lib.hid (bytesKp start hv0 hl)
  have hm : (L.length : Int) ≤ 9223372036854775807 := by unfold maxLen at hl; omega
  by_cases h1 : L.length ≤ 1048576
  · rw [decide_eq_true h1] at HBy
    by_cases h2 : L.length ≤ 4096
    · have h2I : (L.length : Int) ≤ 4096 := by omega
      have HC := Lib.hid (copy_bools hv0 h2)
      clear hv hv0 hl
      go_enter Tryz.func7, Tryz.ntmps7
      go_wp2_with (first
        | (go_at_call 16; refine HBy.out.mono ?_; rintro e w9 ⟨rfl, h9⟩; obtain rfl := h9.symm; clear h9)
        | (go_at_call 12; refine HC.out.mono ?_))
      rintro e w1 ⟨v', rfl, hv', hu1⟩
      obtain ⟨so, sc, rfl⟩ : ∃ ao c, v' = .slice ao L.length c := by
        rcases hv' with ⟨h, h'⟩ | ⟨a, c, h, _⟩
        · exact ⟨none, 0, by rw [h, h']; rfl⟩
        · exact ⟨some a, c, h⟩
      have HV := Lib.hid hv'
      have HU1 := Lib.hid hu1
      clear hv' hu1
      have HN := Lib.hid (new4 start false false false w1)
      go_wp2_with (go_at_call 9; refine HN.out.mono ?_)
      rintro e w2 ⟨pb, rfl, b, tb, O, hA, hO, hu⟩
      have HO := Lib.hid (And.intro hO hu)
      have HA := Lib.hid hA
      clear hA hO hu
      have hst : (PS4 start false false false).kp = start := by cases start <;> rfl
      have hsk : (PS4 start false false false).k = 0 := by cases start <;> rfl
      go_wp2_with fail
      go_loopg [6, 7] L.length (fun k v6 v7 wr => ∃ (s : PS) (i : Nat), v6 = .bool s.kp ∧ v7 = .int .i64 (i : Int) ∧ i + k = L.length ∧ PrAny pb b tb s wr O ∧ s.k = 0 ∧ s.mi = false ∧ s.si = false ∧ s.fnl = false ∧ Upd O w2 wr)
      case atStart => exact ⟨PS4 start false false false, 0, by rw [hst], rfl, by omega, HA.out, hsk, rfl, rfl, rfl, Upd.refl _ _⟩
      case round =>
        obtain ⟨s, i, rfl, rfl, hik, hA, hk0, hmi, hsi, hfn, hu⟩ := hrel
        have HIK := Lib.hid hik; clear hik
        by_cases hlt : i < L.length
        · have hltI : (i : Int) < (L.length : Int) := by omega
          have HU := Lib.hid hu
          obtain ⟨a, rfl⟩ : ∃ a, so = some a := by
            rcases HV.out with ⟨h1, h2⟩ | ⟨a, c, h1, _⟩
            · rw [h2] at hlt; exact absurd hlt (by simp)
            · injection h1 with h1; exact ⟨a, h1⟩
          have hcell : wr.cell? (a.add i) = some (.bool L[i]) := by
            rcases HV.out with ⟨h1, _⟩ | ⟨a', c', h1, _, h3⟩
            · cases h1
            · injection h1 with h1
              injection h1 with h1
              subst h1
              have h4 := h3 i L[i] (List.getElem?_eq_getElem hlt)
              have h5 := World.block_lt_of_cell? w1 _ h4
              exact hu.cell (HO.out.2.cell h4 fun h => h) fun h => by have := HO.out.1 _ h; omega
          have hz2 := hu.size
          obtain ⟨Q, HQ, HC2⟩ := callsVar (apply_kp L[i] hA)
          clear hA hu hz2
          go_wp2_with (go_at_call 17; refine HC2.out.mono ?_)
          rintro e w3 hq
          obtain ⟨rfl, h1, h2⟩ := HQ.out e w3 hq
          clear hq
          have hcell3 : w3.cell? (a.add i) = some (.bool L[i]) := h2.cell hcell fun h => by
            rcases HV.out with ⟨h1, _⟩ | ⟨a', c', h1, _, h3⟩
            · cases h1
            · injection h1 with h1
              injection h1 with h1
              subst h1
              have h4 := h3 i L[i] (List.getElem?_eq_getElem hlt)
              have h5 := World.block_lt_of_cell? w1 _ h4
              have := HO.out.1 _ h
              omega
          have H1 := Lib.hid (And.intro h1 h2)
          clear h1 h2 hcell
          go_wp2_with fail
          go_roundg (L.length - (i + 1))
          case measure => have := HIK.out; omega
          case rel =>
            obtain ⟨e1, e2, e3, e4⟩ := optKp_k L[i] s
            exact ⟨optKp L[i] s, i + 1, by rw [optKp_kp], by go_num, by omega, H1.out.1, e1.trans hk0, e2.trans hmi, e3.trans hsi, e4.trans hfn, HU.out.trans H1.out.2⟩
        · obtain rfl : i = L.length := by have := HIK.out; omega
          have hfl := read_flags hA
          rw [hmi, hsi, hfn] at hfl
          obtain ⟨Q1, HQ1, HC1⟩ := callsVar hfl
          have HA := Lib.hid hA
          have HU := Lib.hid hu
          clear hA hu hfl
          go_wp2_with (go_at_call 18; refine HC1.out.mono ?_)
          rintro e w3 hq
          obtain ⟨rfl, hu3⟩ := HQ1.out e w3 hq
          clear hq
          have hA2 := HA.out.stable hu3 fun _ _ h => h
          have HIs := Lib.hid (is_col hA2)
          have HIb := Lib.hid (is_bufio hA2)
          have hem := empty_ok hA2 (by rw [hk0]; decide)
          rw [hmi, hsi] at hem
          obtain ⟨Q2, HQ2, HC2⟩ := callsVar hem
          have HU3 := Lib.hid hu3
          clear hA2 hu3 hem
          cases hkp : s.kp
          all_goals
            rw [hkp] at HIs HIb
            go_wp2_with (first
              | (go_at_call 19; refine HIs.out.mono ?_; rintro e w4 ⟨rfl, rfl⟩)
              | (go_at_call 20; refine HIb.out.mono ?_; rintro e w4 ⟨rfl, rfl⟩)
              | (go_at_call 10; refine HC2.out.mono ?_))
            rintro e w5 hq
            obtain ⟨rfl, s', O', _, _, _, hu5⟩ := HQ2.out e w5 hq
            clear hq
            have HU5 := Lib.hid hu5
            clear hu5
            go_wp2_with fail
            go_ret
            obtain ⟨hO, hu0⟩ := HO.out
            have hz := HU1.out.size
            have hmon : ∀ k, O k → w.heap.size ≤ k := fun k hk => Nat.le_trans hz (hO k hk)
            exact ⟨rfl, (((((HU1.out.mono (G := fun k => w.heap.size ≤ k) fun _ h => h.elim).trans (hu0.mono fun _ h => h.elim)).trans (HU.out.mono hmon)).trans (HU3.out.mono fun _ h => h.elim)).trans (HU5.out.mono hmon)).below (fun k hk => hk) (Nat.le_refl _)⟩
    · have h2I : (4096 : Int) < (L.length : Int) := by omega
      clear hv hv0 hl
      go_enter Tryz.func7, Tryz.ntmps7
      go_wp2_with (go_at_call 16; refine HBy.out.mono ?_; rintro e w1 ⟨rfl, rfl⟩)
      go_ret
      exact ⟨rfl, Below.refl _ _⟩
  · rw [decide_eq_false h1] at HBy
    clear hv hv0 hl
    go_enter Tryz.func7, Tryz.ntmps7
    go_wp2_with (go_at_call 16; refine HBy.out.mono ?_; rintro e w1 ⟨rfl, rfl⟩)
    go_ret
    exact ⟨rfl, Below.refl _ _⟩
end Go.Proofs.YtdfgcopelfmcmaaGreatFmt
