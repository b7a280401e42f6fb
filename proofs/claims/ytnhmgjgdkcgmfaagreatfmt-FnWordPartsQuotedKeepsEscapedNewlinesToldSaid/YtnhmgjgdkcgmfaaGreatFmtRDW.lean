/-
  n010_150.FnDblQuotedExact: the walk.
-/
import Derived.Test.YtnhmgjgdkcgmfaaGreatFmtMz
import Derived.Test.YtnhmgjgdkcgmfaaGreatFmtZf
namespace Go.Proofs.YtnhmgjgdkcgmfaaGreatFmt
open Go.RowKit

theorem clampL_of {x : Nat} (h : x ≤ 65536) : clampL x = x := by unfold clampL; rw [if_neg (by omega)]
theorem qZ_same (L : Nat) (hL : L ≤ 65536) (vals : List ByteArray) : qZ L (vals.zip (List.replicate vals.length L)) = litsText vals ∧ qZl L (vals.zip (List.replicate vals.length L)) = L := by
  induction vals with
  | nil => exact ⟨rfl, rfl⟩
  | cons s r ih =>
    simp only [List.length_cons, List.replicate_succ, List.zip_cons_cons, qZ, qZl, clampL_of hL, Nat.sub_self, nls, Nat.max_self, ih.1, ih.2, and_true]
    rfl

set_option maxRecDepth 100000 in
set_option maxHeartbeats 16000000 in
theorem rd_main (vv : Value) (vals : List ByteArray) (d : Bool) (L R : Nat) (w : World) (hv : StrsRd w vv vals) (hm1 : vals.length ≤ maxLen) :
    Calls Tryz.prog 5 #[vv, .bool d, .int .u64 (L : Int), .int .u64 (R : Int)] w fun e w' => e = .returned (.bool true) ∧ Below w.heap.size w w' := by
  obtain ⟨Q, HQ, HB⟩ := callsVar (zb_FnDblQuotedExact hv hm1 (.bool d) (.int .u64 (L : Int)) (.int .u64 (R : Int)))
  obtain ⟨va, vc, hvf⟩ := hv.form
  have HV := Lib.hid hv
  unfold maxLen at hm1
  have hm1I : (vals.length : Int) ≤ 9223372036854775807 := by omega
  subst hvf
  obtain ⟨n, hn⟩ : ∃ n, n = vals.length := ⟨_, rfl⟩
  rw [← hn] at HB HV hm1I ⊢
  have HN := Lib.hid hn
  clear hv hm1 hn
  go_enter Tryz.func5, Tryz.ntmps5
  go_wp2_with (go_at_call 15; refine HB.out.mono ?_)
  rintro e w1 hq
  obtain ⟨r, rfl, rfl, hr⟩ := HQ.out e w1 hq
  clear hq
  cases r
  · clear hr
    go_wp2_with fail
    go_ret
    exact ⟨rfl, Below.refl _ _⟩
  · have hr' := hr rfl
    clear hr
    obtain ⟨h1, h2⟩ := hr'
    rw [← HN.out] at h1
    have h1I : (n : Int) ≤ 1048576 := by omega
    have HSb := Lib.hid (zz_strBytes HV.out (by rw [← HN.out]; exact h1) (by omega))
    have HAp := Lib.hid (zz_allPlain HV.out false (by rw [← HN.out]; exact h1) (fun s hs => by have := sizes_le h2 s hs; omega))
    obtain ⟨sb, hsb⟩ : ∃ sb, sb = strBytes vals := ⟨_, rfl⟩
    rw [← hsb] at HSb
    have hsbI : (sb : Int) ≤ 17825792 := by
      have : sb = 16 * vals.length + (vals.map ByteArray.size).sum := hsb
      rw [← HN.out] at this
      omega
    have H2 := Lib.hid h2
    have H1b := Lib.hid h1
    clear h1 h2 hsb
    have hcase : 65536 < n ∨ (n ≤ 65536 ∧ 1048576 < sb) ∨ (n ≤ 65536 ∧ sb ≤ 1048576 ∧ 65536 < L) ∨ (n ≤ 65536 ∧ sb ≤ 1048576 ∧ L ≤ 65536 ∧ 65536 < R) ∨ (n ≤ 65536 ∧ sb ≤ 1048576 ∧ L ≤ 65536 ∧ R ≤ 65536) := by omega
    rcases hcase with g1 | ⟨g1, g2⟩ | ⟨g1, g2, g3⟩ | ⟨g1, g2, g3, g4⟩ | ⟨g1, g2, g3, g4⟩
    · have g1I : (65536 : Int) < (n : Int) := by omega
      clear g1
      go_wp2_with fail
      go_ret
      exact ⟨rfl, Below.refl _ _⟩
    · have g1I : (n : Int) ≤ 65536 := by omega
      have g2I : (1048576 : Int) < (sb : Int) := by omega
      clear g1 g2
      go_wp2_with (go_at_call 7; refine HSb.out.mono ?_; rintro e w1 ⟨rfl, rfl⟩)
      go_ret
      exact ⟨rfl, Below.refl _ _⟩
    · have g1I : (n : Int) ≤ 65536 := by omega
      have g2I : (sb : Int) ≤ 1048576 := by omega
      have g3I : (65536 : Int) < (L : Int) := by omega
      clear g1 g2 g3
      go_wp2_with (go_at_call 7; refine HSb.out.mono ?_; rintro e w1 ⟨rfl, rfl⟩)
      go_ret
      exact ⟨rfl, Below.refl _ _⟩
    · have g1I : (n : Int) ≤ 65536 := by omega
      have g2I : (sb : Int) ≤ 1048576 := by omega
      have g3I : (L : Int) ≤ 65536 := by omega
      have g4I : (65536 : Int) < (R : Int) := by omega
      clear g1 g2 g3 g4
      go_wp2_with (go_at_call 7; refine HSb.out.mono ?_; rintro e w1 ⟨rfl, rfl⟩)
      go_ret
      exact ⟨rfl, Below.refl _ _⟩
    · have g1I : (n : Int) ≤ 65536 := by omega
      have g2I : (sb : Int) ≤ 1048576 := by omega
      have g3I : (L : Int) ≤ 65536 := by omega
      have g4I : (R : Int) ≤ 65536 := by omega
      have HG := Lib.hid (And.intro g1 (And.intro g3 g4))
      clear g1 g2 g3 g4
      cases hpl : (vals.all fun s => s.data.toList.all (plB false))
      · rw [hpl] at HAp
        clear hpl
        go_wp2_with (first | (go_at_call 7; refine HSb.out.mono ?_; rintro e w1 ⟨rfl, rfl⟩) | (go_at_call 9; refine HAp.out.mono ?_; rintro e w1 ⟨rfl, rfl⟩))
        go_ret
        exact ⟨rfl, Below.refl _ _⟩
      · rw [hpl] at HAp
        have HTw := Lib.hid (twTexts_of hpl)
        obtain ⟨Q1, HQ1, HC1⟩ := callsVar (cp_strs150 HV.out (by rw [← HN.out]; exact H1b.out))
        clear hpl
        go_wp2_with (first | (go_at_call 7; refine HSb.out.mono ?_; rintro e w1 ⟨rfl, rfl⟩) | (go_at_call 9; refine HAp.out.mono ?_; rintro e w1 ⟨rfl, rfl⟩) | (go_at_call 10; refine HC1.out.mono ?_))
        rintro e w1 hq
        obtain ⟨v1, rfl, hv1, hu1⟩ := HQ1.out e w1 hq
        clear hq
        obtain ⟨va1, vc1, hvf1⟩ := hv1.form
        rw [← HN.out] at hvf1
        subst hvf1
        obtain ⟨cur0, hcs, hmk⟩ : ∃ cur : Array Value, cur.size = n ∧ (Instr.makeSlice 23 (.int .i64 (n : Int)) (.int .i64 (n : Int))).run Tryz.prog w1 = .ok (.slice (some ⟨w1.heap.size, 0, none⟩) n n) (w1.alloc (.cells cur 24)) := by
          obtain ⟨i, z, hi, hz, hzs, hsz, hby⟩ : ∃ i z, Tryz.prog.info? 24 = some i ∧ i.zero = some z ∧ z.cells.size = 1 ∧ i.size = 1 ∧ i.bytes = 8 := ⟨_, _, rfl, rfl, rfl, rfl, rfl⟩
          refine ⟨_, ?_, run_make w1 23 24 i _ Tryz.underlying23 hi hz .i64 .i64 n n (by omega) (by omega) (by rw [hby]; omega) (by omega)⟩
          rw [hsz]
          simp [size_madeCells]
        have hu2 : Upd (fun _ => False) w1 (w1.alloc (.cells cur0 24)) := (Upd.refl _ w1).alloc _
        have HM := Lib.hid (And.intro (heap_alloc_new w1 (.cells cur0 24)) (And.intro hcs (And.intro hu1 (And.intro hu2 hv1))))
        clear hv1 hu1 hu2 hcs
        go_wp2_with fail
        go_loopg [10] n (fun k v10 wr => ∃ (j : Nat) (cur : Array Value), v10 = .int .i64 (j : Int) ∧ j + k = n ∧ wr.heap[w1.heap.size]? = some (.cells cur 24 (0, 0)) ∧ cur.size = n ∧ (∀ i, i < j → cur[i]? = some (.int .u64 (L : Int))) ∧ Upd (fun k => k = w1.heap.size) (w1.alloc (.cells cur0 24)) wr)
        case atStart => exact ⟨0, cur0, rfl, by omega, HM.out.1, HM.out.2.1, fun i hi => absurd hi (by omega), Upd.refl _ _⟩
        case round =>
          obtain ⟨j, cur, rfl, hjk, hg, hsz, hpre, hu⟩ := hrel
          have HJ := Lib.hid hjk
          have HGr := Lib.hid (And.intro hg (And.intro hsz (And.intro hpre hu)))
          clear hjk
          by_cases hlt : j < n
          · have hltI : (j : Int) < (n : Int) := by omega
            obtain ⟨c0, c2⟩ : ∃ c0, wr.cell? ⟨w1.heap.size, j, none⟩ = some c0 := ⟨cur[j]'(by omega), by rw [cell_at hg, Array.getElem?_eq_getElem]⟩
            have f2 : wr.frozen? ⟨w1.heap.size, j, none⟩ = false := frozen_at hg j
            clear hg hpre hu hsz
            go_wp2_with fail
            go_roundg (n - (j + 1))
            case measure => have := HJ.out; omega
            case rel =>
              obtain ⟨hg, hsz, hpre, hu⟩ := HGr.out
              refine ⟨j + 1, cur.setIfInBounds j (.int .u64 (L : Int)), by go_num, by have := HJ.out; omega, heap_setCell_at _ hg, by simpa using hsz, fun i hi => ?_, hu.setCell (p := ⟨w1.heap.size, j, none⟩) (.inl rfl) _⟩
              by_cases hij : i = j
              · subst hij
                rw [Array.getElem?_setIfInBounds_self, if_pos (by omega)]
              · rw [Array.getElem?_setIfInBounds_ne (by omega)]
                exact hpre i (by omega)
          · obtain rfl : j = n := by have := HJ.out; omega
            have hlr : UintsRd wr (.slice (some ⟨w1.heap.size, 0, none⟩) j j) (List.replicate j L) := .inr ⟨⟨w1.heap.size, 0, none⟩, j, by simp, by simp, fun i b hi => by
              have hij : i < j := by have := (List.getElem?_eq_some_iff.1 hi).1; simpa using this
              rw [Addr.add_base, cell_at hg, hpre i hij]
              rw [List.getElem?_replicate, if_pos hij] at hi
              rw [← Option.some.inj hi]⟩
            have huw : Upd (fun _ => False) w1 wr := HM.out.2.2.2.1.trans' hu fun k hk => .inr (by omega)
            have hvr := HM.out.2.2.2.2.quiet huw
            have hlen : (List.replicate j L).length = vals.length := by rw [List.length_replicate, HN.out]
            have hl1 : vals.length ≤ 1048576 := by rw [← HN.out]; exact H1b.out
            obtain ⟨Q3, HQ3, HC3⟩ := callsVar (z_concat hvr hlr hlen hl1 HTw.out H2.out)
            have HP := Lib.hid (fun W (hW : Upd (fun _ => False) wr W) => z_printDbl d false L R (hvr.quiet hW) (hlr.quiet hW) hlen hl1 HTw.out H2.out)
            have HU2 := Lib.hid (HM.out.2.2.1.trans huw)
            have hlt2 := litsText_len vals
            have HLt := Lib.hid (And.intro hlt2 hl1)
            clear hlr huw hvr hlen hl1 hg hsz hpre hu hlt2
            go_wp2_with (go_at_call 13; refine HC3.out.mono ?_)
            rintro e w3 hq
            obtain ⟨v3, rfl, hv3, _, hu3⟩ := HQ3.out e w3 hq
            clear hq
            obtain ⟨ia, ic, hif⟩ := hv3.form
            subst hif
            obtain ⟨il, hil⟩ : ∃ il, il = (litsText vals).length := ⟨_, rfl⟩
            have hilb : il ≤ 2097152 := by have h1 := HLt.out; have h2 := H2.out; omega
            have hilI : (il : Int) ≤ 2097152 := by omega
            obtain ⟨x00, y00, hmk1, hrow0, hua'⟩ := row_make w3 (il + 16) (by omega) (x := (il : Int) + 16) (by omega)
            have hua : Upd (fun k => w3.heap.size ≤ k) w3 y00 := hua'.mono fun _ h => h.elim
            have hLM : LIM = 1099511627776 := rfl
            have HU3 := Lib.hid hu3
            cases d
            · obtain ⟨x1, y1, hr1, hrow1, huc⟩ := hrow0.push 34 (x := 34) rfl (by simp; omega)
              have hsx : Upd (fun _ => False) w3 y1 := (hua.trans huc).strict fun k hk => hk
              have hv3y := hv3.stable hsx fun _ _ h => h
              obtain ⟨x2, y2, hr2, hrow2, hud⟩ := hrow1.app hv3y (by simp; rw [← hil]; omega)
              rw [← hil] at hr2
              have HRa := Lib.hid hr1
              have HRb := Lib.hid hr2
              have HRow2 := Lib.hid (And.intro hrow2 ((hua.trans huc).trans hud))
              have HB3 := Lib.hid (And.intro hil hilb)
              rw [← hil]
              clear hv3 hu3 hrow0 hua hua' hr1 hr2 hrow1 huc hrow2 hud hsx hv3y hil hilb hLM
              go_wp2_with (first | (at_builtin; refine wpList_append_run rfl _ _ _ rfl rfl rfl HRa.out ?_; clear HRa) | (at_builtin; refine wpList_append_run rfl _ _ _ rfl rfl rfl HRb.out ?_; clear HRb))
              go_loopg [13, 14] (R - L) (fun k v13 v14 wr => ∃ m : Nat, v14 = .int .u64 (m : Int) ∧ L ≤ m ∧ (m ≤ R ∨ m = L) ∧ k = R - m ∧ RowB w3.heap.size wr v13 ([] ++ [34] ++ litsText vals ++ nls (m - L)) ∧ Upd (fun k => w3.heap.size ≤ k) w3 wr)
              case atStart => exact ⟨L, rfl, Nat.le_refl _, .inr rfl, rfl, by rw [Nat.sub_self]; simpa [nls] using HRow2.out.1, HRow2.out.2⟩
              case round =>
                obtain ⟨m, rfl, hm0, hm1, rfl, hrow, hu⟩ := hrel
                have hmI : (m : Int) ≤ 65536 := by have := HG.out; omega
                have hrl : ([] ++ [34] ++ litsText vals ++ nls (m - L)).length + 3 ≤ LIM := by
                  have h1 := HB3.out
                  have h2 := HG.out
                  simp only [List.length_append, List.length_nil, List.length_singleton, nls_len, ← h1.1]
                  unfold LIM
                  omega
                have HMm := Lib.hid (And.intro hm0 hm1)
                by_cases hgo : m < R
                · have hgoI : (m : Int) < (R : Int) := by omega
                  obtain ⟨x3, y3, hr3, hrow3, hue⟩ := hrow.push 92 (x := 92) rfl (by omega)
                  obtain ⟨x4, y4, hr4, hrow4, huf⟩ := hrow3.push 10 (x := 10) rfl (by rw [List.length_append, List.length_singleton]; omega)
                  have HRd := Lib.hid hr3
                  have HRe := Lib.hid hr4
                  have HRow4 := Lib.hid (And.intro hrow4 ((hu.trans hue).trans huf))
                  have HGo := Lib.hid hgo
                  clear hrow hu hr3 hrow3 hue hr4 hrow4 huf hgo hm0 hm1 hrl
                  go_wp2_with (first | (at_builtin; refine wpList_append_run rfl _ _ _ rfl rfl rfl HRd.out ?_; clear HRd) | (at_builtin; refine wpList_append_run rfl _ _ _ rfl rfl rfl HRe.out ?_; clear HRe))
                  go_roundg (R - (m + 1))
                  case measure => have := HGo.out; omega
                  case rel =>
                    refine ⟨m + 1, by go_num, by have := HMm.out.1; omega, .inl HGo.out, rfl, ?_, HRow4.out.2⟩
                    have e : m + 1 - L = (m - L) + 1 := by have := HMm.out.1; omega
                    rw [e]
                    have := HRow4.out.1
                    simpa only [nls, List.append_assoc, List.cons_append, List.nil_append] using this
                · have hgoI : ¬ (m : Int) < (R : Int) := by omega
                  obtain ⟨x3, y3, hr3, hrow3, hue⟩ := hrow.push 34 (x := 34) rfl (by omega)
                  have hs4 : Upd (fun _ => False) w3 y3 := (hu.trans hue).strict fun k hk => hk
                  have HPr := Lib.hid (HP.out y3 (HU3.out.trans hs4))
                  have htx : dblZ false (clampL L) R vals (List.replicate j L) = [] ++ [34] ++ litsText vals ++ nls (m - L) ++ [34] := by
                    have h1 := qZ_same L HG.out.2.1 vals
                    have h2 : m - L = R - L := by have := HMm.out; omega
                    unfold dblZ
                    rw [clampL_of HG.out.2.1, clampL_of HG.out.2.2, HN.out, h1.1, h1.2, h2]
                    simp
                  rw [htx] at HPr
                  have HCv := Lib.hid (fun W (hW : Upd (fun _ => False) y3 W) => str_of_row ((hrow3.quiet hW).row))
                  have HU4 := Lib.hid ((HU2.out.trans HU3.out).trans hs4)
                  have HR2 := Lib.hid hr3
                  clear hrow hu hr3 hrow3 hue hgo hm0 hm1 hrl hs4 htx
                  go_wp2_with (first | (at_builtin; refine wpList_append_run rfl _ _ _ rfl rfl rfl HR2.out ?_) | (go_at_call 12; refine HPr.out.mono ?_; rintro e w5 ⟨rfl, hu5⟩; have hcv := HCv.out _ hu5; have HU5 := Lib.hid hu5; clear hu5))
                  go_ret
                  exact ⟨rfl, (HU4.out.trans HU5.out).below (fun k hk => hk.elim) (Nat.le_refl _)⟩
            · obtain ⟨x0, y0, hr0, hrowa, hub⟩ := hrow0.push 36 (x := 36) rfl (by simp; omega)
              obtain ⟨x1, y1, hr1, hrow1, huc⟩ := hrowa.push 34 (x := 34) rfl (by simp; omega)
              have hsx : Upd (fun _ => False) w3 y1 := ((hua.trans hub).trans huc).strict fun k hk => hk
              have hv3y := hv3.stable hsx fun _ _ h => h
              obtain ⟨x2, y2, hr2, hrow2, hud⟩ := hrow1.app hv3y (by simp; rw [← hil]; omega)
              rw [← hil] at hr2
              have HRa := Lib.hid hr0
              have HRb := Lib.hid hr1
              have HRc := Lib.hid hr2
              have HRow2 := Lib.hid (And.intro hrow2 (((hua.trans hub).trans huc).trans hud))
              have HB3 := Lib.hid (And.intro hil hilb)
              rw [← hil]
              clear hv3 hu3 hrow0 hua hua' hr0 hr1 hr2 hrowa hub hrow1 huc hrow2 hud hsx hv3y hil hilb hLM
              go_wp2_with (first | (at_builtin; refine wpList_append_run rfl _ _ _ rfl rfl rfl HRa.out ?_; clear HRa) | (at_builtin; refine wpList_append_run rfl _ _ _ rfl rfl rfl HRb.out ?_; clear HRb) | (at_builtin; refine wpList_append_run rfl _ _ _ rfl rfl rfl HRc.out ?_; clear HRc))
              go_loopg [13, 14] (R - L) (fun k v13 v14 wr => ∃ m : Nat, v14 = .int .u64 (m : Int) ∧ L ≤ m ∧ (m ≤ R ∨ m = L) ∧ k = R - m ∧ RowB w3.heap.size wr v13 ([] ++ [36] ++ [34] ++ litsText vals ++ nls (m - L)) ∧ Upd (fun k => w3.heap.size ≤ k) w3 wr)
              case atStart => exact ⟨L, rfl, Nat.le_refl _, .inr rfl, rfl, by rw [Nat.sub_self]; simpa [nls] using HRow2.out.1, HRow2.out.2⟩
              case round =>
                obtain ⟨m, rfl, hm0, hm1, rfl, hrow, hu⟩ := hrel
                have hmI : (m : Int) ≤ 65536 := by have := HG.out; omega
                have hrl : ([] ++ [36] ++ [34] ++ litsText vals ++ nls (m - L)).length + 3 ≤ LIM := by
                  have h1 := HB3.out
                  have h2 := HG.out
                  simp only [List.length_append, List.length_nil, List.length_singleton, nls_len, ← h1.1]
                  unfold LIM
                  omega
                have HMm := Lib.hid (And.intro hm0 hm1)
                by_cases hgo : m < R
                · have hgoI : (m : Int) < (R : Int) := by omega
                  obtain ⟨x3, y3, hr3, hrow3, hue⟩ := hrow.push 92 (x := 92) rfl (by omega)
                  obtain ⟨x4, y4, hr4, hrow4, huf⟩ := hrow3.push 10 (x := 10) rfl (by rw [List.length_append, List.length_singleton]; omega)
                  have HRd := Lib.hid hr3
                  have HRe := Lib.hid hr4
                  have HRow4 := Lib.hid (And.intro hrow4 ((hu.trans hue).trans huf))
                  have HGo := Lib.hid hgo
                  clear hrow hu hr3 hrow3 hue hr4 hrow4 huf hgo hm0 hm1 hrl
                  go_wp2_with (first | (at_builtin; refine wpList_append_run rfl _ _ _ rfl rfl rfl HRd.out ?_; clear HRd) | (at_builtin; refine wpList_append_run rfl _ _ _ rfl rfl rfl HRe.out ?_; clear HRe))
                  go_roundg (R - (m + 1))
                  case measure => have := HGo.out; omega
                  case rel =>
                    refine ⟨m + 1, by go_num, by have := HMm.out.1; omega, .inl HGo.out, rfl, ?_, HRow4.out.2⟩
                    have e : m + 1 - L = (m - L) + 1 := by have := HMm.out.1; omega
                    rw [e]
                    have := HRow4.out.1
                    simpa only [nls, List.append_assoc, List.cons_append, List.nil_append] using this
                · have hgoI : ¬ (m : Int) < (R : Int) := by omega
                  obtain ⟨x3, y3, hr3, hrow3, hue⟩ := hrow.push 34 (x := 34) rfl (by omega)
                  have hs4 : Upd (fun _ => False) w3 y3 := (hu.trans hue).strict fun k hk => hk
                  have HPr := Lib.hid (HP.out y3 (HU3.out.trans hs4))
                  have htx : dblZ true (clampL L) R vals (List.replicate j L) = [] ++ [36] ++ [34] ++ litsText vals ++ nls (m - L) ++ [34] := by
                    have h1 := qZ_same L HG.out.2.1 vals
                    have h2 : m - L = R - L := by have := HMm.out; omega
                    unfold dblZ
                    rw [clampL_of HG.out.2.1, clampL_of HG.out.2.2, HN.out, h1.1, h1.2, h2]
                    simp
                  rw [htx] at HPr
                  have HCv := Lib.hid (fun W (hW : Upd (fun _ => False) y3 W) => str_of_row ((hrow3.quiet hW).row))
                  have HU4 := Lib.hid ((HU2.out.trans HU3.out).trans hs4)
                  have HR2 := Lib.hid hr3
                  clear hrow hu hr3 hrow3 hue hgo hm0 hm1 hrl hs4 htx
                  go_wp2_with (first | (at_builtin; refine wpList_append_run rfl _ _ _ rfl rfl rfl HR2.out ?_) | (go_at_call 12; refine HPr.out.mono ?_; rintro e w5 ⟨rfl, hu5⟩; have hcv := HCv.out _ hu5; have HU5 := Lib.hid hu5; clear hu5))
                  go_ret
                  exact ⟨rfl, (HU4.out.trans HU5.out).below (fun k hk => hk.elim) (Nat.le_refl _)⟩
end Go.Proofs.YtnhmgjgdkcgmfaaGreatFmt
