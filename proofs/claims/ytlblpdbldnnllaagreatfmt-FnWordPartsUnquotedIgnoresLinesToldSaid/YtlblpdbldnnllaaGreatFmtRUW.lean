/-
  n010_150.FnWordPartsUnquotedIgnoresLines: the walk.
-/
import Derived.Test.YtlblpdbldnnllaaGreatFmtMz
import Derived.Test.YtlblpdbldnnllaaGreatFmtZf
namespace Go.Proofs.YtlblpdbldnnllaaGreatFmt
open Go.RowKit

theorem twTexts_of {L : List ByteArray} {nl : Bool} (h : (L.all fun s => s.data.toList.all (plB nl)) = true) : ∀ s ∈ L, TwText s := fun s hs x hx => plB_tw (List.all_eq_true.1 (List.all_eq_true.1 h s hs) x hx)
theorem sizes_le {L : List ByteArray} {M : Nat} (h : (L.map ByteArray.size).sum ≤ M) : ∀ s ∈ L, s.size ≤ M := fun s hs => by
  have : s.size ≤ (L.map ByteArray.size).sum := size_le_sum hs
  omega
theorem StrsRd.form {w : World} {v : Value} {L : List ByteArray} (h : StrsRd w v L) : ∃ a c, v = .slice a L.length c := by
  rcases h with ⟨rfl, rfl⟩ | ⟨a, c, rfl, _⟩
  · exact ⟨_, _, rfl⟩
  · exact ⟨_, _, rfl⟩
theorem UintsRd.form {w : World} {v : Value} {L : List Nat} (h : UintsRd w v L) : ∃ a c, v = .slice a L.length c := by
  rcases h with ⟨rfl, rfl⟩ | ⟨a, c, rfl, _⟩
  · exact ⟨_, _, rfl⟩
  · exact ⟨_, _, rfl⟩

set_option maxRecDepth 100000 in
set_option maxHeartbeats 8000000 in
theorem ru_main (vv : Value) (vals : List ByteArray) (lv : Value) (lines : List Nat) (w : World) (hv : StrsRd w vv vals) (hm1 : vals.length ≤ maxLen) (hL : UintsRd w lv lines) (hm2 : lines.length ≤ maxLen) :
    Calls Tryz.prog 6 #[vv, lv] w fun e w' => e = .returned (.bool true) ∧ Below w.heap.size w w' := by
  obtain ⟨Q, HQ, HB⟩ := callsVar (zb_FnWordPartsUnquotedIgnoresLines hv hL hm1 hm2)
  obtain ⟨va, vc, hvf⟩ := hv.form
  obtain ⟨la, lc, hlf⟩ := hL.form
  have HV := Lib.hid (And.intro hv hL)
  unfold maxLen at hm1 hm2
  have hm1I : (vals.length : Int) ≤ 9223372036854775807 := by omega
  have hm2I : (lines.length : Int) ≤ 9223372036854775807 := by omega
  subst hvf hlf
  obtain ⟨n, hn⟩ : ∃ n, n = vals.length := ⟨_, rfl⟩
  obtain ⟨m, hm⟩ : ∃ m, m = lines.length := ⟨_, rfl⟩
  rw [← hn] at HB HV hm1I ⊢
  rw [← hm] at HB HV hm2I ⊢
  have HN := Lib.hid (And.intro hn hm)
  clear hv hL hm1 hm2 hn hm
  go_enter Tryz.func6, Tryz.ntmps6
  go_wp2_with (go_at_call 27; refine HB.out.mono ?_)
  rintro e w1 hq
  obtain ⟨r, rfl, rfl, hr⟩ := HQ.out e w1 hq
  clear hq
  cases r
  · clear hr
    go_wp2_with fail
    go_ret
    exact ⟨rfl, Below.refl _ _⟩
  · have hr' := hr rfl
    clear hr
    obtain ⟨h1, h2, h3⟩ := hr'
    rw [← HN.out.1] at h1
    rw [← HN.out.2] at h3
    have h1I : (n : Int) ≤ 1048576 := by omega
    have h3I : (m : Int) ≤ 1048576 := by omega
    have HSb := Lib.hid (zz_strBytes HV.out.1 (by rw [← HN.out.1]; exact h1) (by omega))
    have HAp := Lib.hid (zz_allPlain HV.out.1 false (by rw [← HN.out.1]; exact h1) (fun s hs => by have := sizes_le h2 s hs; omega))
    obtain ⟨sb, hsb⟩ : ∃ sb, sb = strBytes vals := ⟨_, rfl⟩
    rw [← hsb] at HSb
    have hsbI : (sb : Int) ≤ 17825792 := by
      have : sb = 16 * vals.length + (vals.map ByteArray.size).sum := hsb
      rw [← HN.out.1] at this
      omega
    have H2 := Lib.hid h2
    have H13 := Lib.hid (And.intro h1 h3)
    clear h1 h2 h3 hsb
    have hcase : 65536 < n ∨ (n ≤ 65536 ∧ 65536 < m) ∨ (n ≤ 65536 ∧ m ≤ 65536 ∧ 1048576 < sb + 8 * m) ∨ (n ≤ 65536 ∧ m ≤ 65536 ∧ sb + 8 * m ≤ 1048576 ∧ n = 0) ∨ (n ≤ 65536 ∧ m ≤ 65536 ∧ sb + 8 * m ≤ 1048576 ∧ 0 < n ∧ m ≠ n) ∨ (n ≤ 65536 ∧ m ≤ 65536 ∧ sb + 8 * m ≤ 1048576 ∧ 0 < n ∧ m = n) := by omega
    rcases hcase with g1 | ⟨g1, g2⟩ | ⟨g1, g2, g3⟩ | ⟨g1, g2, g3, g4⟩ | ⟨g1, g2, g3, g4, g5⟩ | ⟨g1, g2, g3, g4, g5⟩
    · have g1I : (65536 : Int) < (n : Int) := by omega
      clear g1
      go_wp2_with fail
      go_ret
      exact ⟨rfl, Below.refl _ _⟩
    · have g1I : (n : Int) ≤ 65536 := by omega
      have g2I : (65536 : Int) < (m : Int) := by omega
      clear g1 g2
      go_wp2_with fail
      go_ret
      exact ⟨rfl, Below.refl _ _⟩
    · have g1I : (n : Int) ≤ 65536 := by omega
      have g2I : (m : Int) ≤ 65536 := by omega
      have g3I : (1048576 : Int) < (sb : Int) + 8 * (m : Int) := by omega
      clear g1 g2 g3
      go_wp2_with (go_at_call 28; refine HSb.out.mono ?_; rintro e w1 ⟨rfl, rfl⟩)
      go_ret
      exact ⟨rfl, Below.refl _ _⟩
    · have g1I : (n : Int) ≤ 65536 := by omega
      have g2I : (m : Int) ≤ 65536 := by omega
      have g3I : (sb : Int) + 8 * (m : Int) ≤ 1048576 := by omega
      have g4I : ((n : Int) == 0) = true := by simp [g4]
      clear g1 g2 g3 g4
      go_wp2_with (go_at_call 28; refine HSb.out.mono ?_; rintro e w1 ⟨rfl, rfl⟩)
      go_ret
      exact ⟨rfl, Below.refl _ _⟩
    · have g1I : (n : Int) ≤ 65536 := by omega
      have g2I : (m : Int) ≤ 65536 := by omega
      have g3I : (sb : Int) + 8 * (m : Int) ≤ 1048576 := by omega
      have g4I : ((n : Int) == 0) = false := by rw [beq_eq_false_iff_ne]; omega
      have g5I : ((m : Int) == (n : Int)) = false := by rw [beq_eq_false_iff_ne]; omega
      clear g1 g2 g3 g4 g5
      go_wp2_with (go_at_call 28; refine HSb.out.mono ?_; rintro e w1 ⟨rfl, rfl⟩)
      go_ret
      exact ⟨rfl, Below.refl _ _⟩
    · obtain rfl : m = n := g5
      have g1I : (m : Int) ≤ 65536 := by omega
      have g3I : (sb : Int) + 8 * (m : Int) ≤ 1048576 := by omega
      have g4I : ((m : Int) == 0) = false := by rw [beq_eq_false_iff_ne]; omega
      have HG := Lib.hid g4
      clear g1 g2 g3 g4
      cases hpl : (vals.all fun s => s.data.toList.all (plB false))
      · rw [hpl] at HAp
        clear hpl
        go_wp2_with (first
          | (go_at_call 28; refine HSb.out.mono ?_; rintro e w1 ⟨rfl, rfl⟩)
          | (go_at_call 29; refine HAp.out.mono ?_; rintro e w1 ⟨rfl, rfl⟩))
        go_ret
        exact ⟨rfl, Below.refl _ _⟩
      · rw [hpl] at HAp
        have HTw := Lib.hid (twTexts_of hpl)
        obtain ⟨Q1, HQ1, HC1⟩ := callsVar (cp_strs150 HV.out.1 (by rw [← HN.out.1]; exact H13.out.1))
        clear hpl
        go_wp2_with (first
          | (go_at_call 28; refine HSb.out.mono ?_; rintro e w1 ⟨rfl, rfl⟩)
          | (go_at_call 29; refine HAp.out.mono ?_; rintro e w1 ⟨rfl, rfl⟩)
          | (go_at_call 30; refine HC1.out.mono ?_))
        rintro e w1 hq
        obtain ⟨v1, rfl, hv1, hu1⟩ := HQ1.out e w1 hq
        clear hq
        obtain ⟨Q2, HQ2, HC2⟩ := callsVar (cp_uints150 (HV.out.2.quiet hu1) (by rw [← HN.out.2]; exact H13.out.2))
        have H1 := Lib.hid (And.intro hv1 hu1)
        clear hv1 hu1
        go_wp2_with (go_at_call 31; refine HC2.out.mono ?_)
        rintro e w2 hq
        obtain ⟨v2, rfl, hv2, hu2⟩ := HQ2.out e w2 hq
        clear hq
        have hlen : lines.length = vals.length := by rw [← HN.out.1, ← HN.out.2]
        have hne : vals ≠ [] := fun e => by have h1 := HG.out; have h2 := HN.out.1; rw [e] at h2; simp at h2; omega
        have hl1 : vals.length ≤ 1048576 := by rw [← HN.out.1]; exact H13.out.1
        obtain ⟨Q3, HQ3, HC3⟩ := callsVar (z_concat (H1.out.1.quiet hu2) hv2 hlen hl1 HTw.out H2.out)
        have HP := Lib.hid (fun W (hW : Upd (fun _ => False) w2 W) => z_printWord false ((H1.out.1.quiet hu2).quiet hW) (hv2.quiet hW) hlen hne hl1 HTw.out H2.out)
        have HU2 := Lib.hid (H1.out.2.trans hu2)
        clear hv2 hu2 hlen hne hl1
        go_wp2_with (go_at_call 32; refine HC3.out.mono ?_)
        rintro e w3 hq
        obtain ⟨v3, rfl, hv3, _, hu3⟩ := HQ3.out e w3 hq
        clear hq
        have HPw := Lib.hid (HP.out w3 hu3)
        have HCv := Lib.hid (fun W (hW : Upd (fun _ => False) w3 W) => str_of_row (hv3.stable hW fun _ _ h => h))
        have HU3 := Lib.hid (HU2.out.trans hu3)
        clear hv3 hu3
        go_wp2_with (go_at_call 33; refine HPw.out.mono ?_; rintro e w4 ⟨rfl, hu4⟩; have hcv := HCv.out _ hu4; have HU4 := Lib.hid hu4; clear hu4)
        go_ret
        refine ⟨?_, (HU3.out.trans HU4.out).below (fun k hk => hk.elim) (Nat.le_refl _)⟩
        show Ending.returned (Value.bool (litsText vals == litsText vals)) = _
        rw [beq_self_eq_true]
end Go.Proofs.YtlblpdbldnnllaaGreatFmt
