/-
  n010_150.FnDblQuotedDollarPrefixAndMinifyNeutral: the walk.
-/
import Derived.Test.YtnhmgjgdkcgmfaaGreatFmtMz
import Derived.Test.YtnhmgjgdkcgmfaaGreatFmtZf
namespace Go.Proofs.YtnhmgjgdkcgmfaaGreatFmt
open Go.RowKit

set_option maxRecDepth 100000 in
set_option maxHeartbeats 16000000 in
theorem rm_main (vv : Value) (vals : List ByteArray) (lv : Value) (lines : List Nat) (L R : Nat) (w : World) (hv : StrsRd w vv vals) (hm1 : vals.length ≤ maxLen) (hL : UintsRd w lv lines) (hm2 : lines.length ≤ maxLen) :
    Calls Tryz.prog 4 #[vv, lv, .int .u64 (L : Int), .int .u64 (R : Int)] w fun e w' => e = .returned (.bool true) ∧ Below w.heap.size w w' := by
  obtain ⟨Q, HQ, HB⟩ := callsVar (zb_FnDblQuotedDollarPrefixAndMinifyNeutral hv hL hm1 hm2 (.int .u64 (L : Int)) (.int .u64 (R : Int)))
  obtain ⟨va, vc, hvf⟩ := hv.form
  obtain ⟨la, lc, hlf⟩ := hL.form
  have HV := Lib.hid (And.intro hv hL)
  unfold maxLen at hm1 hm2
  have hm1I : (vals.length : Int) ≤ 9223372036854775807 := by omega
  have hm2I : (lines.length : Int) ≤ 9223372036854775807 := by omega
  subst hvf hlf
  obtain ⟨n, hn⟩ : ∃ n, n = vals.length := ⟨_, rfl⟩
  obtain ⟨m, hm⟩ : ∃ m, m = lines.length := ⟨_, rfl⟩
  rw [← hn] at HB HV hm1I ⊢
  rw [← hm] at HB HV hm2I ⊢
  have HN := Lib.hid (And.intro hn hm)
  clear hv hL hm1 hm2 hn hm
  go_enter Tryz.func4, Tryz.ntmps4
  go_wp2_with (go_at_call 14; refine HB.out.mono ?_)
  rintro e w1 hq
  obtain ⟨r, rfl, rfl, hr⟩ := HQ.out e w1 hq
  clear hq
  cases r
  · clear hr
    go_wp2_with fail
    go_ret
    exact ⟨rfl, Below.refl _ _⟩
  · have hr' := hr rfl
    clear hr
    obtain ⟨h1, h2, h3⟩ := hr'
    rw [← HN.out.1] at h1
    rw [← HN.out.2] at h3
    have h1I : (n : Int) ≤ 1048576 := by omega
    have h3I : (m : Int) ≤ 1048576 := by omega
    have HSb := Lib.hid (zz_strBytes HV.out.1 (by rw [← HN.out.1]; exact h1) (by omega))
    have HAp := Lib.hid (zz_allPlain HV.out.1 false (by rw [← HN.out.1]; exact h1) (fun s hs => by have := sizes_le h2 s hs; omega))
    have HLa := Lib.hid (zz_linesAtMost HV.out.2 65536 (by rw [← HN.out.2]; exact h3))
    obtain ⟨sb, hsb⟩ : ∃ sb, sb = strBytes vals := ⟨_, rfl⟩
    rw [← hsb] at HSb
    have hsbI : (sb : Int) ≤ 17825792 := by
      have : sb = 16 * vals.length + (vals.map ByteArray.size).sum := hsb
      rw [← HN.out.1] at this
      omega
    have H2 := Lib.hid h2
    have H13 := Lib.hid (And.intro h1 h3)
    clear h1 h2 h3 hsb
    have hcase : 65536 < n ∨ (n ≤ 65536 ∧ 65536 < m) ∨ (n ≤ 65536 ∧ m ≤ 65536 ∧ 1048576 < sb + 8 * m) ∨ (n ≤ 65536 ∧ m ≤ 65536 ∧ sb + 8 * m ≤ 1048576 ∧ m ≠ n) ∨ (n ≤ 65536 ∧ m ≤ 65536 ∧ sb + 8 * m ≤ 1048576 ∧ m = n ∧ 65536 < L) ∨ (n ≤ 65536 ∧ m ≤ 65536 ∧ sb + 8 * m ≤ 1048576 ∧ m = n ∧ L ≤ 65536 ∧ 65536 < R) ∨ (n ≤ 65536 ∧ m ≤ 65536 ∧ sb + 8 * m ≤ 1048576 ∧ m = n ∧ L ≤ 65536 ∧ R ≤ 65536) := by omega
    rcases hcase with g1 | ⟨g1, g2⟩ | ⟨g1, g2, g3⟩ | ⟨g1, g2, g3, g4⟩ | ⟨g1, g2, g3, g4, g5⟩ | ⟨g1, g2, g3, g4, g5, g6⟩ | ⟨g1, g2, g3, g4, g5, g6⟩
    · have g1I : (65536 : Int) < (n : Int) := by omega
      clear g1
      go_wp2_with fail
      go_ret
      exact ⟨rfl, Below.refl _ _⟩
    · have g1I : (n : Int) ≤ 65536 := by omega
      have g2I : (65536 : Int) < (m : Int) := by omega
      clear g1 g2
      go_wp2_with fail
      go_ret
      exact ⟨rfl, Below.refl _ _⟩
    · have g1I : (n : Int) ≤ 65536 := by omega
      have g2I : (m : Int) ≤ 65536 := by omega
      have g3I : (1048576 : Int) < (sb : Int) + 8 * (m : Int) := by omega
      clear g1 g2 g3
      go_wp2_with (go_at_call 7; refine HSb.out.mono ?_; rintro e w1 ⟨rfl, rfl⟩)
      go_ret
      exact ⟨rfl, Below.refl _ _⟩
    · have g1I : (n : Int) ≤ 65536 := by omega
      have g2I : (m : Int) ≤ 65536 := by omega
      have g3I : (sb : Int) + 8 * (m : Int) ≤ 1048576 := by omega
      have g4I : ((m : Int) == (n : Int)) = false := by rw [beq_eq_false_iff_ne]; omega
      clear g1 g2 g3 g4
      go_wp2_with (go_at_call 7; refine HSb.out.mono ?_; rintro e w1 ⟨rfl, rfl⟩)
      go_ret
      exact ⟨rfl, Below.refl _ _⟩
    · obtain rfl : m = n := g4
      have g1I : (m : Int) ≤ 65536 := by omega
      have g3I : (sb : Int) + 8 * (m : Int) ≤ 1048576 := by omega
      have g5I : (65536 : Int) < (L : Int) := by omega
      clear g1 g2 g3 g5
      go_wp2_with (go_at_call 7; refine HSb.out.mono ?_; rintro e w1 ⟨rfl, rfl⟩)
      go_ret
      exact ⟨rfl, Below.refl _ _⟩
    · obtain rfl : m = n := g4
      have g1I : (m : Int) ≤ 65536 := by omega
      have g3I : (sb : Int) + 8 * (m : Int) ≤ 1048576 := by omega
      have g5I : (L : Int) ≤ 65536 := by omega
      have g6I : (65536 : Int) < (R : Int) := by omega
      clear g1 g2 g3 g5 g6
      go_wp2_with (go_at_call 7; refine HSb.out.mono ?_; rintro e w1 ⟨rfl, rfl⟩)
      go_ret
      exact ⟨rfl, Below.refl _ _⟩
    · obtain rfl : m = n := g4
      have g1I : (m : Int) ≤ 65536 := by omega
      have g3I : (sb : Int) + 8 * (m : Int) ≤ 1048576 := by omega
      have g5I : (L : Int) ≤ 65536 := by omega
      have g6I : (R : Int) ≤ 65536 := by omega
      have HG := Lib.hid (And.intro g5 g6)
      clear g1 g2 g3 g5 g6
      cases hla : (lines.all fun x => decide (x ≤ 65536))
      · rw [hla] at HLa
        clear hla
        go_wp2_with (first | (go_at_call 7; refine HSb.out.mono ?_; rintro e w1 ⟨rfl, rfl⟩) | (go_at_call 8; refine HLa.out.mono ?_; rintro e w1 ⟨rfl, rfl⟩))
        go_ret
        exact ⟨rfl, Below.refl _ _⟩
      · rw [hla] at HLa
        have HLn : RowKit.Hid (∀ x ∈ lines, x ≤ 65536) := Lib.hid fun x hx => by simpa using List.all_eq_true.1 hla x hx
        clear hla
        cases hpl : (vals.all fun s => s.data.toList.all (plB false))
        · rw [hpl] at HAp
          clear hpl
          go_wp2_with (first | (go_at_call 7; refine HSb.out.mono ?_; rintro e w1 ⟨rfl, rfl⟩) | (go_at_call 8; refine HLa.out.mono ?_; rintro e w1 ⟨rfl, rfl⟩) | (go_at_call 9; refine HAp.out.mono ?_; rintro e w1 ⟨rfl, rfl⟩))
          go_ret
          exact ⟨rfl, Below.refl _ _⟩
        · rw [hpl] at HAp
          have HTw := Lib.hid (twTexts_of hpl)
          obtain ⟨Q1, HQ1, HC1⟩ := callsVar (cp_strs150 HV.out.1 (by rw [← HN.out.1]; exact H13.out.1))
          clear hpl
          go_wp2_with (first | (go_at_call 7; refine HSb.out.mono ?_; rintro e w1 ⟨rfl, rfl⟩) | (go_at_call 8; refine HLa.out.mono ?_; rintro e w1 ⟨rfl, rfl⟩) | (go_at_call 9; refine HAp.out.mono ?_; rintro e w1 ⟨rfl, rfl⟩) | (go_at_call 10; refine HC1.out.mono ?_))
          rintro e w1 hq
          obtain ⟨v1, rfl, hv1, hu1⟩ := HQ1.out e w1 hq
          clear hq
          obtain ⟨Q2, HQ2, HC2⟩ := callsVar (cp_uints150 (HV.out.2.quiet hu1) (by rw [← HN.out.2]; exact H13.out.2))
          have H1 := Lib.hid (And.intro hv1 hu1)
          clear hv1 hu1
          go_wp2_with (go_at_call 11; refine HC2.out.mono ?_)
          rintro e w2 hq
          obtain ⟨v2, rfl, hv2, hu2⟩ := HQ2.out e w2 hq
          clear hq
          have hlen : lines.length = vals.length := by rw [← HN.out.1, ← HN.out.2]
          have hl1 : vals.length ≤ 1048576 := by rw [← HN.out.1]; exact H13.out.1
          have HU2 := Lib.hid (H1.out.2.trans hu2)
          have HP := Lib.hid (fun d mi W (hW : Upd (fun _ => False) w2 W) => z_printDbl d mi L R ((H1.out.1.quiet hu2).quiet hW) (hv2.quiet hW) hlen hl1 HTw.out H2.out)
          clear hv2 hu2 hlen
          obtain ⟨P, hP⟩ : ∃ P : ByteArray, P = ⟨(dblZ false (clampL L) R vals lines).toArray⟩ := ⟨_, rfl⟩
          obtain ⟨D, hD⟩ : ∃ D : ByteArray, D = ⟨(dblZ true (clampL L) R vals lines).toArray⟩ := ⟨_, rfl⟩
          have hDP : D.data.toList = 36 :: P.data.toList := by rw [hP, hD]; simp [dblZ]
          have HP0 := Lib.hid (fun mi W (hW : Upd (fun _ => False) w2 W) => by have h := HP.out false mi W hW; rw [← hP] at h; exact h)
          have HP1 := Lib.hid (fun mi W (hW : Upd (fun _ => False) w2 W) => by have h := HP.out true mi W hW; rw [← hD] at h; exact h)
          have hsz : (D.size : Int) = (P.size : Int) + 1 := by
            have h1 : D.size = D.data.toList.length := rfl
            have h2 : P.size = P.data.toList.length := rfl
            rw [h1, hDP, h2, List.length_cons]
            omega
          have h0 : ∀ h : 0 < D.size, (D[0]'h) = 36 := fun h => by
            have h3 : D.data.toList[0]? = some 36 := by rw [hDP]; rfl
            rw [List.getElem?_eq_getElem (show 0 < D.data.toList.length from h)] at h3
            exact Option.some.inj h3
          have hex : D.extract 1 (P.size + 1) = P := by
            apply ByteArray.ext
            apply Array.ext'
            rw [ByteArray.data_extract, Array.toList_extract, hDP, List.extract_eq_take_drop]
            rw [Nat.add_sub_cancel]
            show List.take P.data.toList.length (List.drop 1 (36 :: P.data.toList)) = _
            rw [List.drop_one, List.tail_cons, List.take_length]
          have hex2 : D.extract 1 D.size = P := by
            have h1 : D.size = P.size + 1 := by omega
            rw [h1]
            exact hex
          have hPb : (P.size : Int) ≤ 4000000 := by
            have h1 := dblZ_len false L R vals lines hl1 H2.out
            have h2 : P.size = P.data.toList.length := rfl
            have h3 : P.data.toList = dblZ false (clampL L) R vals lines := by rw [hP]
            rw [h2, h3]
            omega
          clear hP hD hDP HP hl1
          go_wp2_with (go_at_call 12; refine (HP0.out false w2 (Upd.refl _ _)).mono ?_)
          rintro e w3 ⟨rfl, hu3⟩
          have HU3 := Lib.hid hu3
          clear hu3
          go_wp2_with (go_at_call 12; refine (HP1.out false _ HU3.out).mono ?_)
          rintro e w4 ⟨rfl, hu4⟩
          have HU4 := Lib.hid (HU3.out.trans hu4)
          clear hu4
          go_wp2_with (go_at_call 12; refine (HP0.out true _ HU4.out).mono ?_)
          rintro e w5 ⟨rfl, hu5⟩
          have HU5 := Lib.hid (HU4.out.trans hu5)
          clear hu5
          go_wp2_with fail
          go_ret
          exact ⟨rfl, (HU2.out.trans HU5.out).below (fun k hk => hk.elim) (Nat.le_refl _)⟩
end Go.Proofs.YtnhmgjgdkcgmfaaGreatFmt
