/-
  n010_150.FnWordPartsQuotedKeepsEscapedNewlines: the walk.
-/
import Derived.Test.YtnhmgjgdkcgmfaaGreatFmtMz
import Derived.Test.YtnhmgjgdkcgmfaaGreatFmtZf
import Derived.Test.YtnhmgjgdkcgmfaaGreatFmtZg
import Derived.Test.YtnhmgjgdkcgmfaaGreatFmtRDW
namespace Go.Proofs.YtnhmgjgdkcgmfaaGreatFmt
open Go.RowKit

theorem stRun_len (st : List UInt8 × Nat) (xs : List UInt8) : (stRun st xs).1.length ≤ st.1.length + xs.length ∧ (stRun st xs).2 ≤ st.2 + xs.length := by
  induction xs generalizing st with
  | nil => exact ⟨Nat.le_refl _, Nat.le_refl _⟩
  | cons c r ih =>
    have h1 := ih (stStep st c)
    have h2 : (stStep st c).1.length ≤ st.1.length + 1 ∧ (stStep st c).2 ≤ st.2 + 1 := by
      unfold stStep
      split
      · simp
        omega
      · simp
    simp only [stRun, List.foldl_cons, List.length_cons] at h1 ⊢
    omega
theorem plain_no10 {L : List ByteArray} (h : (L.all fun s => s.data.toList.all (plB false)) = true) : ∀ s ∈ L, ∀ c ∈ s.data.toList, plB false c = true := fun s hs c hc => List.all_eq_true.1 (List.all_eq_true.1 h s hs) c hc

set_option maxRecDepth 100000 in
set_option maxHeartbeats 16000000 in
theorem rq_main (vv : Value) (vals : List ByteArray) (lv : Value) (lines : List Nat) (L R : Nat) (w : World) (hv : StrsRd w vv vals) (hm1 : vals.length ≤ maxLen) (hL : UintsRd w lv lines) (hm2 : lines.length ≤ maxLen) :
    Calls Tryz.prog 3 #[vv, lv, .int .u64 (L : Int), .int .u64 (R : Int)] w fun e w' => e = .returned (.bool true) ∧ Below w.heap.size w w' := by
  obtain ⟨Q, HQ, HB⟩ := callsVar (zb_FnWordPartsQuotedKeepsEscapedNewlines hv hL hm1 hm2 (.int .u64 (L : Int)) (.int .u64 (R : Int)))
  obtain ⟨va, vc, hvf⟩ := hv.form
  obtain ⟨la, lc, hlf⟩ := hL.form
  have HV := Lib.hid (And.intro hv hL)
  unfold maxLen at hm1 hm2
  have hm1I : (vals.length : Int) ≤ 9223372036854775807 := by omega
  have hm2I : (lines.length : Int) ≤ 9223372036854775807 := by omega
  subst hvf hlf
  obtain ⟨n, hn⟩ : ∃ n, n = vals.length := ⟨_, rfl⟩
  obtain ⟨m, hm⟩ : ∃ m, m = lines.length := ⟨_, rfl⟩
  rw [← hn] at HB HV hm1I ⊢
  rw [← hm] at HB HV hm2I ⊢
  have HN := Lib.hid (And.intro hn hm)
  clear hv hL hm1 hm2 hn hm
  go_enter Tryz.func3, Tryz.ntmps3
  go_wp2_with (go_at_call 6; refine HB.out.mono ?_)
  rintro e w1 hq
  obtain ⟨r, rfl, rfl, hr⟩ := HQ.out e w1 hq
  clear hq
  cases r
  · clear hr
    go_wp2_with fail
    go_ret
    exact ⟨rfl, Below.refl _ _⟩
  · have hr' := hr rfl
    clear hr
    obtain ⟨h1, h2, h3⟩ := hr'
    rw [← HN.out.1] at h1
    rw [← HN.out.2] at h3
    have h1I : (n : Int) ≤ 1048576 := by omega
    have h3I : (m : Int) ≤ 1048576 := by omega
    have HSb := Lib.hid (zz_strBytes HV.out.1 (by rw [← HN.out.1]; exact h1) (by omega))
    have HAp := Lib.hid (zz_allPlain HV.out.1 false (by rw [← HN.out.1]; exact h1) (fun s hs => by have := sizes_le h2 s hs; omega))
    have HLa := Lib.hid (zz_linesAtMost HV.out.2 65536 (by rw [← HN.out.2]; exact h3))
    obtain ⟨sb, hsb⟩ : ∃ sb, sb = strBytes vals := ⟨_, rfl⟩
    rw [← hsb] at HSb
    have hsbI : (sb : Int) ≤ 17825792 := by
      have : sb = 16 * vals.length + (vals.map ByteArray.size).sum := hsb
      rw [← HN.out.1] at this
      omega
    have H2 := Lib.hid h2
    have H13 := Lib.hid (And.intro h1 h3)
    clear h1 h2 h3 hsb
    have hcase : 65536 < n ∨ (n ≤ 65536 ∧ 65536 < m) ∨ (n ≤ 65536 ∧ m ≤ 65536 ∧ 1048576 < sb + 8 * m) ∨ (n ≤ 65536 ∧ m ≤ 65536 ∧ sb + 8 * m ≤ 1048576 ∧ m ≠ n) ∨ (n ≤ 65536 ∧ m ≤ 65536 ∧ sb + 8 * m ≤ 1048576 ∧ m = n ∧ 65536 < L) ∨ (n ≤ 65536 ∧ m ≤ 65536 ∧ sb + 8 * m ≤ 1048576 ∧ m = n ∧ L ≤ 65536 ∧ 65536 < R) ∨ (n ≤ 65536 ∧ m ≤ 65536 ∧ sb + 8 * m ≤ 1048576 ∧ m = n ∧ L ≤ 65536 ∧ R ≤ 65536) := by omega
    rcases hcase with g1 | ⟨g1, g2⟩ | ⟨g1, g2, g3⟩ | ⟨g1, g2, g3, g4⟩ | ⟨g1, g2, g3, g4, g5⟩ | ⟨g1, g2, g3, g4, g5, g6⟩ | ⟨g1, g2, g3, g4, g5, g6⟩
    · have g1I : (65536 : Int) < (n : Int) := by omega
      clear g1
      go_wp2_with fail
      go_ret
      exact ⟨rfl, Below.refl _ _⟩
    · have g1I : (n : Int) ≤ 65536 := by omega
      have g2I : (65536 : Int) < (m : Int) := by omega
      clear g1 g2
      go_wp2_with fail
      go_ret
      exact ⟨rfl, Below.refl _ _⟩
    · have g1I : (n : Int) ≤ 65536 := by omega
      have g2I : (m : Int) ≤ 65536 := by omega
      have g3I : (1048576 : Int) < (sb : Int) + 8 * (m : Int) := by omega
      clear g1 g2 g3
      go_wp2_with (go_at_call 7; refine HSb.out.mono ?_; rintro e w1 ⟨rfl, rfl⟩)
      go_ret
      exact ⟨rfl, Below.refl _ _⟩
    · have g1I : (n : Int) ≤ 65536 := by omega
      have g2I : (m : Int) ≤ 65536 := by omega
      have g3I : (sb : Int) + 8 * (m : Int) ≤ 1048576 := by omega
      have g4I : ((m : Int) == (n : Int)) = false := by rw [beq_eq_false_iff_ne]; omega
      clear g1 g2 g3 g4
      go_wp2_with (go_at_call 7; refine HSb.out.mono ?_; rintro e w1 ⟨rfl, rfl⟩)
      go_ret
      exact ⟨rfl, Below.refl _ _⟩
    · obtain rfl : m = n := g4
      have g1I : (m : Int) ≤ 65536 := by omega
      have g3I : (sb : Int) + 8 * (m : Int) ≤ 1048576 := by omega
      have g5I : (65536 : Int) < (L : Int) := by omega
      clear g1 g2 g3 g5
      go_wp2_with (go_at_call 7; refine HSb.out.mono ?_; rintro e w1 ⟨rfl, rfl⟩)
      go_ret
      exact ⟨rfl, Below.refl _ _⟩
    · obtain rfl : m = n := g4
      have g1I : (m : Int) ≤ 65536 := by omega
      have g3I : (sb : Int) + 8 * (m : Int) ≤ 1048576 := by omega
      have g5I : (L : Int) ≤ 65536 := by omega
      have g6I : (65536 : Int) < (R : Int) := by omega
      clear g1 g2 g3 g5 g6
      go_wp2_with (go_at_call 7; refine HSb.out.mono ?_; rintro e w1 ⟨rfl, rfl⟩)
      go_ret
      exact ⟨rfl, Below.refl _ _⟩
    · obtain rfl : m = n := g4
      have g1I : (m : Int) ≤ 65536 := by omega
      have g3I : (sb : Int) + 8 * (m : Int) ≤ 1048576 := by omega
      have g5I : (L : Int) ≤ 65536 := by omega
      have g6I : (R : Int) ≤ 65536 := by omega
      have HG := Lib.hid (And.intro g5 g6)
      clear g1 g2 g3 g5 g6
      cases hla : (lines.all fun x => decide (x ≤ 65536))
      · rw [hla] at HLa
        clear hla
        go_wp2_with (first | (go_at_call 7; refine HSb.out.mono ?_; rintro e w1 ⟨rfl, rfl⟩) | (go_at_call 8; refine HLa.out.mono ?_; rintro e w1 ⟨rfl, rfl⟩))
        go_ret
        exact ⟨rfl, Below.refl _ _⟩
      · rw [hla] at HLa
        have HLn : RowKit.Hid (∀ x ∈ lines, x ≤ 65536) := Lib.hid fun x hx => by simpa using List.all_eq_true.1 hla x hx
        clear hla
        cases hpl : (vals.all fun s => s.data.toList.all (plB false))
        · rw [hpl] at HAp
          clear hpl
          go_wp2_with (first | (go_at_call 7; refine HSb.out.mono ?_; rintro e w1 ⟨rfl, rfl⟩) | (go_at_call 8; refine HLa.out.mono ?_; rintro e w1 ⟨rfl, rfl⟩) | (go_at_call 9; refine HAp.out.mono ?_; rintro e w1 ⟨rfl, rfl⟩))
          go_ret
          exact ⟨rfl, Below.refl _ _⟩
        · rw [hpl] at HAp
          have HTw := Lib.hid (twTexts_of hpl)
          have HPn := Lib.hid (plain_no10 hpl)
          obtain ⟨Q1, HQ1, HC1⟩ := callsVar (cp_strs150 HV.out.1 (by rw [← HN.out.1]; exact H13.out.1))
          clear hpl
          go_wp2_with (first | (go_at_call 7; refine HSb.out.mono ?_; rintro e w1 ⟨rfl, rfl⟩) | (go_at_call 8; refine HLa.out.mono ?_; rintro e w1 ⟨rfl, rfl⟩) | (go_at_call 9; refine HAp.out.mono ?_; rintro e w1 ⟨rfl, rfl⟩) | (go_at_call 10; refine HC1.out.mono ?_))
          rintro e w1 hq
          obtain ⟨v1, rfl, hv1, hu1⟩ := HQ1.out e w1 hq
          clear hq
          obtain ⟨Q2, HQ2, HC2⟩ := callsVar (cp_uints150 (HV.out.2.quiet hu1) (by rw [← HN.out.2]; exact H13.out.2))
          have H1 := Lib.hid (And.intro hv1 hu1)
          clear hv1 hu1
          go_wp2_with (go_at_call 11; refine HC2.out.mono ?_)
          rintro e w2 hq
          obtain ⟨v2, rfl, hv2, hu2⟩ := HQ2.out e w2 hq
          clear hq
          have hlen : lines.length = vals.length := by rw [← HN.out.1, ← HN.out.2]
          have hl1 : vals.length ≤ 1048576 := by rw [← HN.out.1]; exact H13.out.1
          have HU2 := Lib.hid (H1.out.2.trans hu2)
          have hLc := clampL_of HG.out.1
          have hRc := clampL_of HG.out.2
          have HP := Lib.hid (z_printDbl false false L R (H1.out.1.quiet hu2) hv2 hlen hl1 HTw.out H2.out)
          rw [hLc] at HP
          have hst := stRun_dbl vals (fun s hs c hc => by
            have h1 := HPn.out s hs c hc
            intro e
            rw [e] at h1
            exact absurd h1 (by decide)) L R lines hlen
          have htop : (qZl L (vals.zip lines) - L) + (clampL R - qZl L (vals.zip lines)) = topL (max L R) lines - L := by
            rw [qZl_top vals lines hlen HLn.out L, hRc, topL_max]
            have := topL_ge lines L
            omega
          have htopR : topL (max L R) lines ≤ 65536 := topL_le lines HLn.out (Nat.max_le.2 HG.out)
          have htopL : L ≤ topL (max L R) lines := Nat.le_trans (Nat.le_max_left _ _) (topL_ge lines _)
          rw [htop] at hst
          have hdl := dblZ_len false L R vals lines hl1 H2.out
          rw [hLc] at hdl
          obtain ⟨o, ho⟩ : ∃ o : ByteArray, o = ⟨(dblZ false L R vals lines).toArray⟩ := ⟨_, rfl⟩
          have hol : o.data.toList = dblZ false L R vals lines := by rw [ho]
          rw [← ho] at HP
          rw [← hol] at hst hdl
          have hos : o.size = o.data.toList.length := rfl
          have hosI : (o.size : Int) ≤ 4000000 := by omega
          have HSt := Lib.hid hst
          have HTop := Lib.hid (And.intro htopL htopR)
          obtain ⟨a2, c2, hv2f, hv2c⟩ : ∃ (a2 : Option Addr) (c2 : Nat), v2 = .slice a2 m c2 ∧ ∀ j (h : j < lines.length), ∃ a, a2 = some a ∧ w2.cell? (a.add j) = some (.int .u64 ((lines[j]'h : Nat) : Int)) := by
            have hml := HN.out.2
            rcases hv2 with ⟨rfl, e⟩ | ⟨a, c, rfl, _, hrd⟩
            · refine ⟨none, 0, by rw [hml, e]; rfl, fun j h => ?_⟩
              rw [e] at h
              simp at h
            · exact ⟨some a, c, by rw [hml], fun j h => ⟨a, rfl, hrd j _ (List.getElem?_eq_getElem h)⟩⟩
          subst hv2f
          have HV2 := Lib.hid (And.intro hv2 (And.intro hv2c (H1.out.1.quiet hu2)))
          have HCt := Lib.hid (fun W (hW : Upd (fun _ => False) w2 W) => z_concat ((H1.out.1.quiet hu2).quiet hW) (hv2.quiet hW) hlen hl1 HTw.out H2.out)
          have hlt2 := litsText_len vals
          have HLt := Lib.hid (And.intro hlt2 hl1)
          clear hLc hRc hst htop htopR htopL hdl ho hol hos hv2 hv2c hu2 hlen hl1 hlt2
          go_wp2_with (go_at_call 12; refine HP.out.mono ?_)
          rintro e w3 ⟨rfl, hu3⟩
          obtain ⟨x00, y00, hmk, hrow0, hua'⟩ := row_make w3 o.size (by omega) (x := (o.size : Int)) rfl
          have hua : Upd (fun k => w3.heap.size ≤ k) w3 y00 := hua'.mono fun _ h => h.elim
          have HR0 := Lib.hid (And.intro hrow0 hua)
          have HU3 := Lib.hid hu3
          clear hrow0 hua hua' hu3
          go_wp2_with fail
          go_loopg [11, 12, 13] (o.size) (fun k v11 v12 v13 wr => ∃ (i nl : Nat), v13 = .int .i64 (i : Int) ∧ i + k = o.size ∧ v12 = .int .u64 (nl : Int) ∧ nl = (stRun ([], 0) (o.data.toList.take i)).2 ∧ RowB w3.heap.size wr v11 (stRun ([], 0) (o.data.toList.take i)).1 ∧ Upd (fun k => w3.heap.size ≤ k) w3 wr)
          case atStart => exact ⟨0, 0, rfl, by omega, rfl, rfl, HR0.out.1, HR0.out.2⟩
          case round =>
            obtain ⟨i, nl, rfl, hik, rfl, hnl, hrow, hu⟩ := hrel
            have HI := Lib.hid (And.intro hik (And.intro hnl (And.intro hrow hu)))
            have hlenb : ∀ j, (stRun ([], 0) (o.data.toList.take j)).1.length ≤ j ∧ (stRun ([], 0) (o.data.toList.take j)).2 ≤ j := fun j => by
              have h1 := stRun_len ([], 0) (o.data.toList.take j)
              rw [List.length_take] at h1
              simp only [List.length_nil] at h1
              omega
            by_cases hlt : i < o.size
            · have hltI : (i : Int) < (o.size : Int) := by omega
              obtain ⟨c, hc⟩ : ∃ c, o[i]'hlt = c := ⟨_, rfl⟩
              have hcl : o.data.toList[i]'hlt = c := hc
              have hstep : stRun ([], 0) (o.data.toList.take (i + 1)) = stStep (stRun ([], 0) (o.data.toList.take i)) c := by
                rw [List.take_succ_eq_append_getElem hlt, hcl, stRun_append]
                rfl
              have hnlb : nl ≤ 4000000 := by have := (hlenb i).2; omega
              have hnlI : (nl : Int) ≤ 4000000 := by omega
              by_cases h10 : c = 10
              · have hcI : (c.toNat : Int) = 10 := by rw [h10]; rfl
                have hg : (stRun ([], 0) (o.data.toList.take i)).1.getLast? = some 92 := HSt.out.2 i (by rw [List.getElem?_eq_getElem hlt, hcl, h10])
                obtain ⟨ys, hys⟩ : ∃ ys, (stRun ([], 0) (o.data.toList.take i)).1 = ys ++ [92] := by
                  rcases List.eq_nil_or_concat (stRun ([], 0) (o.data.toList.take i)).1 with e | ⟨ys, y, e⟩
                  · rw [e] at hg; simp at hg
                  · rw [List.concat_eq_append] at e
                    rw [e, List.getLast?_append, List.getLast?_singleton] at hg
                    simp at hg
                    exact ⟨ys, by rw [e, hg]⟩
                have hyl : ys.length + 1 ≤ i := by have h1 := (hlenb i).1; rw [hys, List.length_append, List.length_singleton] at h1; exact h1
                have hylI : (ys.length : Int) + 1 ≤ 4000000 := by omega
                rw [hys] at hrow
                obtain ⟨g, cap, hform⟩ : ∃ g cap, u11 = .slice (some ⟨g, 0, none⟩) (ys.length + 1) cap := by
                  have hl : (ys ++ [(92 : UInt8)]).length = ys.length + 1 := by simp
                  rcases hrow.1.2 with ⟨_, e⟩ | ⟨g, cap, cur, e, _⟩
                  · rw [hl] at e; omega
                  · rw [hl] at e; exact ⟨g, cap, e⟩
                subst hform
                obtain ⟨hcell, hcap, hpop⟩ := hrow.pop
                have hcell' : wr.cell? ⟨g, ys.length, none⟩ = some (.int .u8 92) := hcell
                have hcapI : (ys.length : Int) + 1 ≤ (cap : Int) := by omega
                have h0I : ((ys.length : Int) + 1 == 0) = false := by rw [beq_eq_false_iff_ne]; omega
                have HPop := Lib.hid (And.intro hpop (And.intro hu (And.intro hstep (And.intro hys (And.intro h10 (And.intro hnl hik))))))
                clear hrow hu hstep hys h10 hnl hik hg hcell hcap hpop hlenb hyl hnlb hcl
                go_wp2_with fail
                go_roundg (o.size - (i + 1))
                case measure => have := HPop.out.2.2.2.2.2.2; omega
                case rel =>
                  obtain ⟨hpop, hu, hstep, hys, h10, hnl, hik⟩ := HPop.out
                  refine ⟨i + 1, nl + 1, by go_num, by omega, by go_num, ?_, ?_, hu⟩
                  · rw [hstep, hnl]; simp [stStep, h10]
                  · rw [hstep]
                    have e : (stStep (stRun ([], 0) (o.data.toList.take i)) c).1 = ys := by simp [stStep, h10, hys]
                    rw [e]
                    exact hpop
              · have hcI : ((c.toNat : Int) == 10) = false := by
                  rw [beq_eq_false_iff_ne]
                  intro e
                  have e2 : c.toNat = 10 := by omega
                  exact h10 (UInt8.toNat_inj.1 e2)
                obtain ⟨x1, y1, hr1, hrow1, hu1⟩ := hrow.push c (x := (c.toNat : Int)) rfl (by have := (hlenb i).1; unfold LIM; omega)
                have HPop := Lib.hid (And.intro hrow1 (And.intro (hu.trans hu1) (And.intro hstep (And.intro h10 (And.intro hnl hik)))))
                have HR1 := Lib.hid hr1
                clear hrow hu hstep h10 hnl hik hr1 hrow1 hu1 hlenb hnlb hcl
                go_wp2_with (at_builtin; refine wpList_append_run rfl _ _ _ rfl rfl rfl HR1.out ?_)
                go_roundg (o.size - (i + 1))
                case measure => have := HPop.out.2.2.2.2.2; omega
                case rel =>
                  obtain ⟨hrow1, hu, hstep, h10, hnl, hik⟩ := HPop.out
                  refine ⟨i + 1, nl, by go_num, by omega, rfl, ?_, ?_, hu⟩
                  · rw [hstep, hnl]; simp [stStep, h10]
                  · rw [hstep]
                    have e : (stStep (stRun ([], 0) (o.data.toList.take i)) c).1 = (stRun ([], 0) (o.data.toList.take i)).1 ++ [c] := by simp [stStep, h10]
                    rw [e]
                    exact hrow1
            · obtain rfl : i = o.size := by omega
              have hall : o.data.toList.take o.size = o.data.toList := List.take_length (l := o.data.toList)
              rw [hall, HSt.out.1] at hnl hrow
              have hnlI : (nl : Int) = ((topL (max L R) lines : Nat) : Int) - (L : Int) := by
                have h1 := HTop.out.1
                have h2 : nl = topL (max L R) lines - L := hnl
                omega
              obtain ⟨tp, htp⟩ : ∃ tp, tp = topL (max L R) lines := ⟨_, rfl⟩
              rw [← htp] at hnlI
              have HNl := Lib.hid (And.intro hnlI htp)
              have hus := hu.strict (G := fun _ => False) fun k hk => hk
              have HS := Lib.hid (And.intro hrow hus)
              obtain ⟨W0, hW0⟩ : ∃ W0, W0 = wr := ⟨_, rfl⟩
              obtain ⟨V0, hV0⟩ : ∃ V0, V0 = u11 := ⟨_, rfl⟩
              rw [← hW0, ← hV0] at HS
              have hWW : W0 = wr := hW0
              clear hik hnl hrow hu hall hlenb hus hnlI htp HI
              have hRL : ((L : Int) < (R : Int) ∧ max L R = R) ∨ (¬ (L : Int) < (R : Int) ∧ max L R = L) := by omega
              have HW0 := Lib.hid (And.intro hW0 hV0)
              clear hW0 hV0 hWW
              rcases hRL with ⟨hRLI, hmx⟩ | ⟨hRLI, hmx⟩
              all_goals
                have HMx := Lib.hid hmx
                clear hmx
                go_wp2_with fail
                go_loopg [15, 16] m (fun k v15 v16 wx => ∃ j t : Nat, v15 = .int .u64 (t : Int) ∧ v16 = .int .i64 (j : Int) ∧ j + k = m ∧ t = topL (max L R) (lines.take j) ∧ W0 = wx)
                case atStart => exact ⟨0, max L R, by rw [HMx.out], rfl, by omega, rfl, HW0.out.1⟩
                case round =>
                  obtain ⟨j, t, rfl, rfl, hjk, ht, rfl⟩ := hrel
                  have HJ := Lib.hid (And.intro hjk ht)
                  have htb : t ≤ 65536 := by rw [ht]; exact topL_le _ (fun x hx => HLn.out x (List.mem_of_mem_take hx)) (Nat.max_le.2 HG.out)
                  have htI : (t : Int) ≤ 65536 := by omega
                  clear hjk ht htb
                  by_cases hlt : j < m
                  · have hltI : (j : Int) < (m : Int) := by omega
                    have hj : j < lines.length := by rw [← HN.out.2]; exact hlt
                    obtain ⟨a, ha, hca⟩ := HV2.out.2.1 j hj
                    obtain ⟨x, hx⟩ : ∃ x, lines[j]'hj = x := ⟨_, rfl⟩
                    rw [hx] at hca
                    have c1 : W0.cell? (a.add j) = some (.int .u64 (x : Int)) := HS.out.2.cell (HU3.out.cell hca fun h => h) fun h => h
                    subst ha
                    have htk := topL_take (max L R) lines j hj
                    rw [hx] at htk
                    have HTk := Lib.hid htk
                    clear hx hca htk
                    by_cases hxt : t < x
                    · have hxtI : (t : Int) < (x : Int) := by omega
                      have HXt := Lib.hid hxt
                      clear hxt
                      go_wp2_with fail
                      go_roundg (m - (j + 1))
                      case measure => have := HJ.out.1; omega
                      case rel => exact ⟨j + 1, x, rfl, by go_num, by have := HJ.out.1; omega, by rw [HTk.out, ← HJ.out.2]; have := HXt.out; omega, rfl⟩
                    · have hxtI : ¬ (t : Int) < (x : Int) := by omega
                      have HXt := Lib.hid hxt
                      clear hxt
                      go_wp2_with fail
                      go_roundg (m - (j + 1))
                      case measure => have := HJ.out.1; omega
                      case rel => exact ⟨j + 1, t, rfl, by go_num, by have := HJ.out.1; omega, by rw [HTk.out, ← HJ.out.2]; have := HXt.out; omega, rfl⟩
                  · have hjm : lines.take j = lines := List.take_of_length_le (by have h1 := HJ.out.1; have h2 := HN.out.2; omega)
                    have htt : t = tp := by have h1 := HJ.out.2; rw [hjm] at h1; rw [h1, HNl.out.2]
                    subst htt
                    have hnlI := HNl.out.1
                    have hLtI : (L : Int) ≤ (t : Int) := by have h1 := HTop.out.1; have h2 := HNl.out.2; omega
                    obtain ⟨Q3, HQ3, HC3⟩ := callsVar (HCt.out W0 (HU3.out.trans HS.out.2))
                    clear hjm
                    go_wp2_with (go_at_call 13; refine HC3.out.mono ?_)
                    rintro e w4 hq
                    obtain ⟨v4, rfl, hv4, _, hu4⟩ := HQ3.out e w4 hq
                    clear hq
                    obtain ⟨ia, ic, hif⟩ := hv4.form
                    subst hif
                    obtain ⟨il, hil⟩ : ∃ il, il = (litsText vals).length := ⟨_, rfl⟩
                    have hilb : il ≤ 2097152 := by have h1 := HLt.out; have h2 := H2.out; omega
                    have hilI : (il : Int) ≤ 2097152 := by omega
                    obtain ⟨x01, y01, hmk1, hrow0, hua'⟩ := row_make w4 (il + 2) (by omega) (x := (il : Int) + 2) (by omega)
                    have hua : Upd (fun k => w4.heap.size ≤ k) w4 y01 := hua'.mono fun _ h => h.elim
                    have hLM : LIM = 1099511627776 := rfl
                    obtain ⟨x1, y1, hr1, hrow1, hub⟩ := hrow0.push 34 (x := 34) rfl (by simp; omega)
                    have hsx : Upd (fun _ => False) w4 y1 := (hua.trans hub).strict fun k hk => hk
                    obtain ⟨x2, y2, hr2, hrow2, huc⟩ := hrow1.app (hv4.stable hsx fun _ _ h => h) (by simp; rw [← hil]; omega)
                    obtain ⟨x3, y3, hr3, hrow3, hud⟩ := hrow2.push 34 (x := 34) rfl (by simp; rw [← hil]; omega)
                    rw [← hil] at hr2
                    have hs4 : Upd (fun _ => False) w4 y3 := ((((hua.trans hub).trans huc).trans hud)).strict fun k hk => hk
                    have HRa := Lib.hid hr1
                    have HRb := Lib.hid hr2
                    have HRc := Lib.hid hr3
                    have hcv1 := str_of_row (((HS.out.1.quiet hu4).quiet hs4).row)
                    have hcv2 := str_of_row hrow3.row
                    have hV0 := HW0.out.2
                    rw [hV0] at hcv1
                    have hte : ([34] ++ litsText vals ++ [34] : List UInt8) = [] ++ [34] ++ litsText vals ++ [34] := rfl
                    rw [hte] at hcv1
                    have HU5 := Lib.hid ((((HU2.out.trans HU3.out).trans HS.out.2).trans hu4).trans hs4)
                    rw [← hil]
                    clear hv4 hu4 hrow0 hua hua' hr1 hr2 hr3 hrow1 hrow2 hrow3 hub huc hud hsx hs4 hil hilb hLM hV0 hte
                    go_wp2_with (first | (at_builtin; refine wpList_append_run rfl _ _ _ rfl rfl rfl HRa.out ?_; clear HRa) | (at_builtin; refine wpList_append_run rfl _ _ _ rfl rfl rfl HRb.out ?_; clear HRb) | (at_builtin; refine wpList_append_run rfl _ _ _ rfl rfl rfl HRc.out ?_; clear HRc))
                    go_ret
                    exact ⟨rfl, HU5.out.below (fun k hk => hk.elim) (Nat.le_refl _)⟩
end Go.Proofs.YtnhmgjgdkcgmfaaGreatFmt
