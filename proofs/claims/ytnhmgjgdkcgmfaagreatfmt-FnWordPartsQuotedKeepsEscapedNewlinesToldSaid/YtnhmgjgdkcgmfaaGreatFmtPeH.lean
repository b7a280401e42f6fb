/-
  Print of an empty *File: either kind of writer, indentation by tabs or by spaces, minify on or off.
-/
import Derived.Test.YtnhmgjgdkcgmfaaGreatFmtMe
import Derived.Test.YtnhmgjgdkcgmfaaGreatFmtMa
import Derived.Test.YtnhmgjgdkcgmfaaGreatFmtMb
namespace Go.Proofs.YtnhmgjgdkcgmfaaGreatFmt
open Go.RowKit

set_option maxRecDepth 100000 in
set_option maxHeartbeats 8000000 in
theorem pe_Print_b0n {S : Sink} (hs : S.Law Tryz.prog 531) (hok : ∀ c, S.okb c = true) {pb b g tb fb : Nat} {s : PS} {w : World} {G Fs : Nat → Prop} (h : PrIdle pb b g tb s w G) (hkp : s.kp = false) (hk0 : s.k = 0) (hmi : s.mi = false) (_ : s.k ≤ 1073741824)
    (hI : S.I w Fs []) (hdF : ∀ k, PrOwn pb b g tb G k → ¬ Fs k) (hfile : FileAt fb w) (hfo : ¬ PrOwn pb b g tb G fb) (hfF : ¬ Fs fb) :
    Calls Tryz.prog 23 #[.pointer (some ⟨pb, 0, none⟩), .iface S.ty (.pointer (some S.ptr)), .iface 93 (.pointer (some ⟨fb, 0, none⟩))] w fun e w' => e = .returned .nilIface ∧ PrintDone S pb b tb s (PrOwn pb b g tb G) Fs w w' := by
  have h0 := h
  obtain ⟨hc, hb, ht, hl, hd⟩ := h
  obtain ⟨Q, HQ, HC⟩ := callsVar (pe_reset hc hl)
  obtain ⟨fn, hf⟩ := hfile
  have HK := Lib.hid (And.intro hb (And.intro ht (And.intro hl hd)))
  have HF := Lib.hid hf
  have HD := Lib.hid (And.intro hdF (And.intro hfo (And.intro hfF hI)))
  have H0 := Lib.hid h0
  have HT := tw_law hs hok tb 8 26
  have hta := fun w => asrt_same (P := Tryz.prog) Tryz.underlying93 50 (.pointer (some ⟨fb, 0, none⟩)) w
  have htw := fun w => asrt_same (P := Tryz.prog) Tryz.underlying70 72 (.pointer (some ⟨tb, 0, none⟩)) w
  have hkI : (s.k : Int) = 0 := by omega
  have hm1 := bw_meth_rs b
  have ha1 := bw_ahead_rs b
  have hm2 := bw_meth_fl b
  have ha2 := bw_ahead_fl b
  clear hc hb ht hl hd hf hdF hfo hfF hI h0
  go_enter Tryz.func23, Tryz.ntmps23
  go_wp2_with (go_at_call 28; refine HC.out.mono ?_)
  rintro e w1 hq
  obtain ⟨rfl, hp1, hu1⟩ := HQ.out e w1 hq
  clear hq
  have c1 : w1.cell? ⟨pb, 1, none⟩ = some (.pointer (some ⟨tb, 0, none⟩)) := hp1.at 1
  have c5 : w1.cell? ⟨pb, 5, none⟩ = some (.int .u64 (s.k : Int)) := hp1.at 5
  have c10 : w1.cell? ⟨pb, 10, none⟩ = some (.bool false) := by rw [hp1.at 10, ← hmi]; rfl
  obtain ⟨Q2, HQ2, HC2⟩ := callsVar (tw_Init hs (tb := tb) (w := w1) (G := G) (Fs := Fs) (twd := 8) (fg := 26) (HK.out.2.1.stable hu1 fun k hk e => by
      subst e
      rcases hk with hk | hk
      · exact HK.out.2.2.2.2.2.1 hk
      · exact HK.out.2.2.2.2.2.2.2.2.1 hk) (hs.stable HD.out.2.2.2 hu1 fun k hk e => HD.out.1 pb (.inl rfl) (e ▸ hk)) (HD.out.1 tb (.inr (.inr (.inr (.inl rfl))))) (fun k hk => HD.out.1 k (.inr (.inr (.inr (.inr hk))))) (by decide))
  have HP1 := Lib.hid hp1
  have HU1 := Lib.hid hu1
  clear hp1 hu1
  go_wp2_with (go_at_call 30; refine HC2.out.mono ?_)
  rintro e w2 hq
  obtain ⟨rfl, H2, hi2, hH2, _, hu2⟩ := HQ2.out e w2 hq
  clear hq
  have HR := Lib.hid (pr_ready hs H0.out HD.out.1 HF.out HD.out.2.1 HD.out.2.2.1 HP1.out HU1.out hi2 hH2 hu2)
  have d0 : w2.cell? ⟨pb, 0, none⟩ = some (.iface 68 (.pointer (some ⟨b, 0, none⟩))) := by have h := HR.out.cell.at 0; rw [h, hkp]; rfl
  have d1 : w2.cell? ⟨pb, 1, none⟩ = some (.pointer (some ⟨tb, 0, none⟩)) := HR.out.cell.at 1
  have hcell := HR.out.cell
  rw [hkp] at hcell
  obtain ⟨Q3, HQ3, HC3⟩ := callsVar (bw_rsP HT (tw_neBW S tb 8 26) (pb := pb) (b := b) (g := g) (w := w2) (tv := .pointer (some ⟨tb, 0, none⟩)) (Fs := H2) (s := s.rst) hcell HR.out.buf ⟨[], [], HR.out.idle, rfl, fun c hc => (by cases hc)⟩ HR.out.np.1 HR.out.np.2.1 HR.out.np.2.2.1 HR.out.ne.1 HR.out.ne.2.1)
  clear hi2 hH2 hu2 hcell
  go_wp2_with (go_at_call 225; refine HC3.out.mono ?_)
  rintro e w3 hq
  obtain ⟨rfl, cc, cl, hS3, hu3⟩ := HQ3.out e w3 hq
  clear hq
  have hf3 := hu3.heap HR.out.file (by rintro (h | h | h); exact HR.out.ne.2.2.1 h; exact HR.out.ne.2.2.2.1 h; exact HR.out.ne.2.2.2.2 h)
  have x1 : w3.cell? ⟨fb, 1, none⟩ = some (.slice none 0 0) := cell_at hf3 1
  have x2 : w3.cell? ⟨fb, 2, none⟩ = some (.slice none 0 0) := cell_at hf3 2
  have hp3 : PCell pb w3.drew _ _ _ _ := hS3.1
  obtain ⟨Q4, HQ4, HC4⟩ := callsVar (pe_stmtList hp3)
  have HS3 := Lib.hid hS3
  have HU3 := Lib.hid hu3
  clear hf3 hp3 hS3 hu3
  go_wp2_with fail
  have hf3 := HU3.out.heap HR.out.file (by rintro (h | h | h); exact HR.out.ne.2.2.1 h; exact HR.out.ne.2.2.2.1 h; exact HR.out.ne.2.2.2.2 h)
  have HF3 := Lib.hid hf3
  clear hf3
  go_region_held3 (fun w' => w'.cell? ⟨fb, 1, none⟩ = some (.slice none 0 0) ∧ w'.cell? ⟨fb, 2, none⟩ = some (.slice none 0 0)) (first | exact ⟨x1, x2⟩ | exact ⟨y1, y2⟩ | simp [go_sem, *])
    (first | (go_at_call 31; refine HC4.out.mono ?_; rintro e w4 hq; obtain ⟨rfl, hp4, hu4⟩ := HQ4.out e w4 hq; clear hq;
              have hf4 := hu4.heap HF3.out HR.out.ne.2.2.1; have y1 : w4.cell? ⟨fb, 1, none⟩ = some (.slice none 0 0) := cell_at hf4 1; have y2 : w4.cell? ⟨fb, 2, none⟩ = some (.slice none 0 0) := cell_at hf4 2;
              have HP4 := Lib.hid hp4; have HU4 := Lib.hid hu4; clear hp4 hu4 hf4))
  obtain ⟨hS3p, hS3b, hS3n, hS3d1, hS3d2⟩ := HS3.out
  have hb4 := hS3b.stable HT ((Upd.refl _ w3).drew.trans HU4.out) (fun e => hS3d1 e.symm) (fun e => hS3d2 e.symm) fun k hk e => hS3n (e ▸ hk)
  obtain ⟨Q5, HQ5, HC5⟩ := callsVar (pe_newline HT (kp := false) ⟨HP4.out, hb4, hS3n, hS3d1, hS3d2⟩ rfl)
  have HB := Lib.hid (And.intro hS3n (And.intro hS3d1 hS3d2))
  clear hS3p hS3b hS3n hS3d1 hS3d2 hb4
  go_wp2_with (go_at_call 32; refine HC5.out.mono ?_)
  rintro e w5 hq
  obtain ⟨rfl, s5, ⟨hp5, hb5, _⟩, hsame5, hu5⟩ := HQ5.out e w5 hq
  clear hq
  have HFh := Lib.hid (pe_fh hp5)
  obtain ⟨Q6, HQ6, HC6⟩ := callsVar (pe_fc hp5)
  have HB5 := Lib.hid hb5
  have HU5 := Lib.hid hu5
  have HSm := Lib.hid hsame5
  clear hp5 hb5 hu5 hsame5
  go_wp2_with (first | (go_at_call 40; refine HFh.out.mono ?_; rintro e w' ⟨rfl, rfl⟩) | (go_at_call 41; refine HC6.out.mono ?_))
  rintro e w6 hq
  obtain ⟨rfl, hp6, hu6⟩ := HQ6.out e w6 hq
  clear hq
  have e0 : w6.cell? ⟨pb, 0, none⟩ = some (.iface 68 (.pointer (some ⟨b, 0, none⟩))) := hp6.at 0
  have hb6 := HB5.out.stable HT hu6 (fun e => HB.out.2.1 e.symm) (fun e => HB.out.2.2 e.symm) fun k hk e => HB.out.1 (e ▸ hk)
  obtain ⟨Q7, HQ7, HC7⟩ := callsVar (flush_any HT hb6.bufP (by decide))
  have HP6 := Lib.hid hp6
  have HU6 := Lib.hid hu6
  clear hp6 hu6 hb6
  go_wp2_with (go_at_call 224; refine HC7.out.mono ?_)
  rintro e w7 hq
  obtain ⟨rfl, F7, hb7, hF7, hu7⟩ := HQ7.out e w7 hq
  clear hq
  obtain ⟨g7, cur7, Fs7, hb71, hb72, hb73, hb74, hb75, hb76, hb77, hb78, hb79, hb710, hb7F⟩ := hb7
  have hbg7 : BufPg (twSink S tb 8 26) b g7 w7 Fs7 [10] [] := ⟨cur7, hb71, hb72, hb73, hb74, hb75, hb76, hb77, hb78, hb79, hb710⟩
  obtain ⟨Q8, HQ8, HC8⟩ := callsVar (tw_Flush hs (twI_lf hb77) fun W hW => tw_fnd_empty hs hok hW (by decide))
  have HBg := Lib.hid hbg7
  have HF7 := Lib.hid (show ∀ k, (k = b ∨ k = g7 ∨ Fs7 k) → (k = b ∨ k = g ∨ H2 k) ∨ w6.heap.size ≤ k from fun k hk => hF7 k ((hb7F k).2 hk))
  have HU7 := Lib.hid hu7
  clear hb71 hb72 hb73 hb74 hb75 hb76 hb77 hb78 hb79 hb710 hb7F hbg7 hF7 hu7
  go_wp2_with (go_at_call 42; refine HC8.out.mono ?_)
  rintro e w8 hq
  obtain ⟨rfl, hd8⟩ := HQ8.out e w8 hq
  clear hq
  have HD8 := Lib.hid hd8
  clear hd8
  go_wp2_with fail
  go_ret
  have hs1 : s.Same s5.noCom := PS.Same.trans (t := s.rst) ⟨rfl, rfl, rfl, rfl, rfl, rfl, rfl, rfl, rfl, Nat.zero_le _⟩ (PS.Same.trans (t := { s.rst with cc := cc, cl := cl }) ⟨rfl, rfl, rfl, rfl, rfl, rfl, rfl, rfl, rfl, Nat.le_refl _⟩ (HSm.out.trans ⟨rfl, rfl, rfl, rfl, rfl, rfl, rfl, rfl, rfl, Nat.le_refl _⟩))
  have hl5 : s5.noCom.lin ≤ s5.noCom.lic := Nat.le_trans HSm.out.2.2.2.2.2.2.2.2.2 (Nat.zero_le _)
  have hown : ∀ k, (k = pb ∨ k = b ∨ k = g) → PrOwn pb b g tb G k ∨ Fs k := fun k hk => by
    rcases hk with h | h | h
    · exact .inl (.inl h)
    · exact .inl (.inr (.inl h))
    · exact .inl (.inr (.inr (.inl h)))
  have hu6 : Upd (fun k => PrOwn pb b g tb G k ∨ Fs k) w w6 := ((((HR.out.upd.trans (HU3.out.mono hown)).drew).trans (HU4.out.mono fun k hk => hown k (.inl hk))).trans (HU5.out.mono hown)).trans (HU6.out.mono fun k hk => hown k (.inl hk))
  refine ⟨rfl, print_end hs (w6 := w6) (s6 := s5.noCom) (by rw [hkp]; exact HP6.out) hs1 hl5 HBg.out HF7.out HU7.out HR.out.own ?_ (.inr (.inl rfl)) (.inr (.inr (.inl rfl))) (.inl rfl) hu6 HD8.out⟩
  rintro (h | h | h)
  · exact HB.out.2.1 h
  · exact HB.out.2.2 h
  · exact HB.out.1 h

set_option maxRecDepth 100000 in
set_option maxHeartbeats 8000000 in
theorem pe_Print_b0m {S : Sink} (hs : S.Law Tryz.prog 531) (hok : ∀ c, S.okb c = true) {pb b g tb fb : Nat} {s : PS} {w : World} {G Fs : Nat → Prop} (h : PrIdle pb b g tb s w G) (hkp : s.kp = false) (hk0 : s.k = 0) (hmi : s.mi = true) (hsi : s.si = false) (_ : s.k ≤ 1073741824)
    (hI : S.I w Fs []) (hdF : ∀ k, PrOwn pb b g tb G k → ¬ Fs k) (hfile : FileAt fb w) (hfo : ¬ PrOwn pb b g tb G fb) (hfF : ¬ Fs fb) :
    Calls Tryz.prog 23 #[.pointer (some ⟨pb, 0, none⟩), .iface S.ty (.pointer (some S.ptr)), .iface 93 (.pointer (some ⟨fb, 0, none⟩))] w fun e w' => e = .returned .nilIface ∧ PrintDone S pb b tb s (PrOwn pb b g tb G) Fs w w' := by
  have h0 := h
  obtain ⟨hc, hb, ht, hl, hd⟩ := h
  obtain ⟨Q, HQ, HC⟩ := callsVar (pe_reset hc hl)
  obtain ⟨fn, hf⟩ := hfile
  have HK := Lib.hid (And.intro hb (And.intro ht (And.intro hl hd)))
  have HF := Lib.hid hf
  have HD := Lib.hid (And.intro hdF (And.intro hfo (And.intro hfF hI)))
  have H0 := Lib.hid h0
  have HT := tw_law hs hok tb 8 26
  have hta := fun w => asrt_same (P := Tryz.prog) Tryz.underlying93 50 (.pointer (some ⟨fb, 0, none⟩)) w
  have htw := fun w => asrt_same (P := Tryz.prog) Tryz.underlying70 72 (.pointer (some ⟨tb, 0, none⟩)) w
  have hkI : (s.k : Int) = 0 := by omega
  have hm1 := bw_meth_rs b
  have ha1 := bw_ahead_rs b
  have hm2 := bw_meth_fl b
  have ha2 := bw_ahead_fl b
  clear hc hb ht hl hd hf hdF hfo hfF hI h0
  go_enter Tryz.func23, Tryz.ntmps23
  go_wp2_with (go_at_call 28; refine HC.out.mono ?_)
  rintro e w1 hq
  obtain ⟨rfl, hp1, hu1⟩ := HQ.out e w1 hq
  clear hq
  have c1 : w1.cell? ⟨pb, 1, none⟩ = some (.pointer (some ⟨tb, 0, none⟩)) := hp1.at 1
  have c5 : w1.cell? ⟨pb, 5, none⟩ = some (.int .u64 (s.k : Int)) := hp1.at 5
  have c10 : w1.cell? ⟨pb, 10, none⟩ = some (.bool true) := by rw [hp1.at 10, ← hmi]; rfl
  have c11 : w1.cell? ⟨pb, 11, none⟩ = some (.bool false) := by rw [hp1.at 11, ← hsi]; rfl
  obtain ⟨Q2, HQ2, HC2⟩ := callsVar (tw_Init hs (tb := tb) (w := w1) (G := G) (Fs := Fs) (twd := 8) (fg := 26) (HK.out.2.1.stable hu1 fun k hk e => by
      subst e
      rcases hk with hk | hk
      · exact HK.out.2.2.2.2.2.1 hk
      · exact HK.out.2.2.2.2.2.2.2.2.1 hk) (hs.stable HD.out.2.2.2 hu1 fun k hk e => HD.out.1 pb (.inl rfl) (e ▸ hk)) (HD.out.1 tb (.inr (.inr (.inr (.inl rfl))))) (fun k hk => HD.out.1 k (.inr (.inr (.inr (.inr hk))))) (by decide))
  have HP1 := Lib.hid hp1
  have HU1 := Lib.hid hu1
  clear hp1 hu1
  go_wp2_with (go_at_call 30; refine HC2.out.mono ?_)
  rintro e w2 hq
  obtain ⟨rfl, H2, hi2, hH2, _, hu2⟩ := HQ2.out e w2 hq
  clear hq
  have HR := Lib.hid (pr_ready hs H0.out HD.out.1 HF.out HD.out.2.1 HD.out.2.2.1 HP1.out HU1.out hi2 hH2 hu2)
  have d0 : w2.cell? ⟨pb, 0, none⟩ = some (.iface 68 (.pointer (some ⟨b, 0, none⟩))) := by have h := HR.out.cell.at 0; rw [h, hkp]; rfl
  have d1 : w2.cell? ⟨pb, 1, none⟩ = some (.pointer (some ⟨tb, 0, none⟩)) := HR.out.cell.at 1
  have hcell := HR.out.cell
  rw [hkp] at hcell
  obtain ⟨Q3, HQ3, HC3⟩ := callsVar (bw_rsP HT (tw_neBW S tb 8 26) (pb := pb) (b := b) (g := g) (w := w2) (tv := .pointer (some ⟨tb, 0, none⟩)) (Fs := H2) (s := s.rst) hcell HR.out.buf ⟨[], [], HR.out.idle, rfl, fun c hc => (by cases hc)⟩ HR.out.np.1 HR.out.np.2.1 HR.out.np.2.2.1 HR.out.ne.1 HR.out.ne.2.1)
  clear hi2 hH2 hu2 hcell
  go_wp2_with (go_at_call 225; refine HC3.out.mono ?_)
  rintro e w3 hq
  obtain ⟨rfl, cc, cl, hS3, hu3⟩ := HQ3.out e w3 hq
  clear hq
  have hf3 := hu3.heap HR.out.file (by rintro (h | h | h); exact HR.out.ne.2.2.1 h; exact HR.out.ne.2.2.2.1 h; exact HR.out.ne.2.2.2.2 h)
  have x1 : w3.cell? ⟨fb, 1, none⟩ = some (.slice none 0 0) := cell_at hf3 1
  have x2 : w3.cell? ⟨fb, 2, none⟩ = some (.slice none 0 0) := cell_at hf3 2
  have hp3 : PCell pb w3.drew _ _ _ _ := hS3.1
  obtain ⟨Q4, HQ4, HC4⟩ := callsVar (pe_stmtList hp3)
  have HS3 := Lib.hid hS3
  have HU3 := Lib.hid hu3
  clear hf3 hp3 hS3 hu3
  go_wp2_with fail
  have hf3 := HU3.out.heap HR.out.file (by rintro (h | h | h); exact HR.out.ne.2.2.1 h; exact HR.out.ne.2.2.2.1 h; exact HR.out.ne.2.2.2.2 h)
  have HF3 := Lib.hid hf3
  clear hf3
  go_region_held3 (fun w' => w'.cell? ⟨fb, 1, none⟩ = some (.slice none 0 0) ∧ w'.cell? ⟨fb, 2, none⟩ = some (.slice none 0 0)) (first | exact ⟨x1, x2⟩ | exact ⟨y1, y2⟩ | simp [go_sem, *])
    (first | (go_at_call 31; refine HC4.out.mono ?_; rintro e w4 hq; obtain ⟨rfl, hp4, hu4⟩ := HQ4.out e w4 hq; clear hq;
              have hf4 := hu4.heap HF3.out HR.out.ne.2.2.1; have y1 : w4.cell? ⟨fb, 1, none⟩ = some (.slice none 0 0) := cell_at hf4 1; have y2 : w4.cell? ⟨fb, 2, none⟩ = some (.slice none 0 0) := cell_at hf4 2;
              have HP4 := Lib.hid hp4; have HU4 := Lib.hid hu4; clear hp4 hu4 hf4))
  obtain ⟨hS3p, hS3b, hS3n, hS3d1, hS3d2⟩ := HS3.out
  have hb4 := hS3b.stable HT ((Upd.refl _ w3).drew.trans HU4.out) (fun e => hS3d1 e.symm) (fun e => hS3d2 e.symm) fun k hk e => hS3n (e ▸ hk)
  obtain ⟨Q5, HQ5, HC5⟩ := callsVar (pe_newline HT (kp := false) ⟨HP4.out, hb4, hS3n, hS3d1, hS3d2⟩ rfl)
  have HB := Lib.hid (And.intro hS3n (And.intro hS3d1 hS3d2))
  clear hS3p hS3b hS3n hS3d1 hS3d2 hb4
  go_wp2_with (go_at_call 32; refine HC5.out.mono ?_)
  rintro e w5 hq
  obtain ⟨rfl, s5, ⟨hp5, hb5, _⟩, hsame5, hu5⟩ := HQ5.out e w5 hq
  clear hq
  have HFh := Lib.hid (pe_fh hp5)
  obtain ⟨Q6, HQ6, HC6⟩ := callsVar (pe_fc hp5)
  have HB5 := Lib.hid hb5
  have HU5 := Lib.hid hu5
  have HSm := Lib.hid hsame5
  clear hp5 hb5 hu5 hsame5
  go_wp2_with (first | (go_at_call 40; refine HFh.out.mono ?_; rintro e w' ⟨rfl, rfl⟩) | (go_at_call 41; refine HC6.out.mono ?_))
  rintro e w6 hq
  obtain ⟨rfl, hp6, hu6⟩ := HQ6.out e w6 hq
  clear hq
  have e0 : w6.cell? ⟨pb, 0, none⟩ = some (.iface 68 (.pointer (some ⟨b, 0, none⟩))) := hp6.at 0
  have hb6 := HB5.out.stable HT hu6 (fun e => HB.out.2.1 e.symm) (fun e => HB.out.2.2 e.symm) fun k hk e => HB.out.1 (e ▸ hk)
  obtain ⟨Q7, HQ7, HC7⟩ := callsVar (flush_any HT hb6.bufP (by decide))
  have HP6 := Lib.hid hp6
  have HU6 := Lib.hid hu6
  clear hp6 hu6 hb6
  go_wp2_with (go_at_call 224; refine HC7.out.mono ?_)
  rintro e w7 hq
  obtain ⟨rfl, F7, hb7, hF7, hu7⟩ := HQ7.out e w7 hq
  clear hq
  obtain ⟨g7, cur7, Fs7, hb71, hb72, hb73, hb74, hb75, hb76, hb77, hb78, hb79, hb710, hb7F⟩ := hb7
  have hbg7 : BufPg (twSink S tb 8 26) b g7 w7 Fs7 [10] [] := ⟨cur7, hb71, hb72, hb73, hb74, hb75, hb76, hb77, hb78, hb79, hb710⟩
  obtain ⟨Q8, HQ8, HC8⟩ := callsVar (tw_Flush hs (twI_lf hb77) fun W hW => tw_fnd_empty hs hok hW (by decide))
  have HBg := Lib.hid hbg7
  have HF7 := Lib.hid (show ∀ k, (k = b ∨ k = g7 ∨ Fs7 k) → (k = b ∨ k = g ∨ H2 k) ∨ w6.heap.size ≤ k from fun k hk => hF7 k ((hb7F k).2 hk))
  have HU7 := Lib.hid hu7
  clear hb71 hb72 hb73 hb74 hb75 hb76 hb77 hb78 hb79 hb710 hb7F hbg7 hF7 hu7
  go_wp2_with (go_at_call 42; refine HC8.out.mono ?_)
  rintro e w8 hq
  obtain ⟨rfl, hd8⟩ := HQ8.out e w8 hq
  clear hq
  have HD8 := Lib.hid hd8
  clear hd8
  go_wp2_with fail
  go_ret
  have hs1 : s.Same s5.noCom := PS.Same.trans (t := s.rst) ⟨rfl, rfl, rfl, rfl, rfl, rfl, rfl, rfl, rfl, Nat.zero_le _⟩ (PS.Same.trans (t := { s.rst with cc := cc, cl := cl }) ⟨rfl, rfl, rfl, rfl, rfl, rfl, rfl, rfl, rfl, Nat.le_refl _⟩ (HSm.out.trans ⟨rfl, rfl, rfl, rfl, rfl, rfl, rfl, rfl, rfl, Nat.le_refl _⟩))
  have hl5 : s5.noCom.lin ≤ s5.noCom.lic := Nat.le_trans HSm.out.2.2.2.2.2.2.2.2.2 (Nat.zero_le _)
  have hown : ∀ k, (k = pb ∨ k = b ∨ k = g) → PrOwn pb b g tb G k ∨ Fs k := fun k hk => by
    rcases hk with h | h | h
    · exact .inl (.inl h)
    · exact .inl (.inr (.inl h))
    · exact .inl (.inr (.inr (.inl h)))
  have hu6 : Upd (fun k => PrOwn pb b g tb G k ∨ Fs k) w w6 := ((((HR.out.upd.trans (HU3.out.mono hown)).drew).trans (HU4.out.mono fun k hk => hown k (.inl hk))).trans (HU5.out.mono hown)).trans (HU6.out.mono fun k hk => hown k (.inl hk))
  refine ⟨rfl, print_end hs (w6 := w6) (s6 := s5.noCom) (by rw [hkp]; exact HP6.out) hs1 hl5 HBg.out HF7.out HU7.out HR.out.own ?_ (.inr (.inl rfl)) (.inr (.inr (.inl rfl))) (.inl rfl) hu6 HD8.out⟩
  rintro (h | h | h)
  · exact HB.out.2.1 h
  · exact HB.out.2.2 h
  · exact HB.out.1 h

set_option maxRecDepth 100000 in
set_option maxHeartbeats 8000000 in
theorem pe_Print_bkn {S : Sink} (hs : S.Law Tryz.prog 531) (hok : ∀ c, S.okb c = true) {pb b g tb fb : Nat} {s : PS} {w : World} {G Fs : Nat → Prop} (h : PrIdle pb b g tb s w G) (hkp : s.kp = false) (hk0 : ¬ s.k = 0) (hmi : s.mi = false) (hkk : s.k ≤ 1073741824)
    (hI : S.I w Fs []) (hdF : ∀ k, PrOwn pb b g tb G k → ¬ Fs k) (hfile : FileAt fb w) (hfo : ¬ PrOwn pb b g tb G fb) (hfF : ¬ Fs fb) :
    Calls Tryz.prog 23 #[.pointer (some ⟨pb, 0, none⟩), .iface S.ty (.pointer (some S.ptr)), .iface 93 (.pointer (some ⟨fb, 0, none⟩))] w fun e w' => e = .returned .nilIface ∧ PrintDone S pb b tb s (PrOwn pb b g tb G) Fs w w' := by
  have h0 := h
  obtain ⟨hc, hb, ht, hl, hd⟩ := h
  obtain ⟨Q, HQ, HC⟩ := callsVar (pe_reset hc hl)
  obtain ⟨fn, hf⟩ := hfile
  have HK := Lib.hid (And.intro hb (And.intro ht (And.intro hl hd)))
  have HF := Lib.hid hf
  have HD := Lib.hid (And.intro hdF (And.intro hfo (And.intro hfF hI)))
  have H0 := Lib.hid h0
  have HT := tw_law hs hok tb s.k 10
  have hta := fun w => asrt_same (P := Tryz.prog) Tryz.underlying93 50 (.pointer (some ⟨fb, 0, none⟩)) w
  have htw := fun w => asrt_same (P := Tryz.prog) Tryz.underlying70 72 (.pointer (some ⟨tb, 0, none⟩)) w
  have hkI : ¬ (s.k : Int) = 0 := by omega
  have hkw : IntKind.i64.wrap (s.k : Int) = (s.k : Int) := by rw [IntKind.wrap_i64]; omega
  have hkI2 : (s.k : Int) ≤ 1073741824 := by omega
  have hm1 := bw_meth_rs b
  have ha1 := bw_ahead_rs b
  have hm2 := bw_meth_fl b
  have ha2 := bw_ahead_fl b
  clear hc hb ht hl hd hf hdF hfo hfF hI h0
  go_enter Tryz.func23, Tryz.ntmps23
  go_wp2_with (go_at_call 28; refine HC.out.mono ?_)
  rintro e w1 hq
  obtain ⟨rfl, hp1, hu1⟩ := HQ.out e w1 hq
  clear hq
  have c1 : w1.cell? ⟨pb, 1, none⟩ = some (.pointer (some ⟨tb, 0, none⟩)) := hp1.at 1
  have c5 : w1.cell? ⟨pb, 5, none⟩ = some (.int .u64 (s.k : Int)) := hp1.at 5
  have c10 : w1.cell? ⟨pb, 10, none⟩ = some (.bool false) := by rw [hp1.at 10, ← hmi]; rfl
  obtain ⟨Q2, HQ2, HC2⟩ := callsVar (tw_Init hs (tb := tb) (w := w1) (G := G) (Fs := Fs) (twd := s.k) (fg := 10) (HK.out.2.1.stable hu1 fun k hk e => by
      subst e
      rcases hk with hk | hk
      · exact HK.out.2.2.2.2.2.1 hk
      · exact HK.out.2.2.2.2.2.2.2.2.1 hk) (hs.stable HD.out.2.2.2 hu1 fun k hk e => HD.out.1 pb (.inl rfl) (e ▸ hk)) (HD.out.1 tb (.inr (.inr (.inr (.inl rfl))))) (fun k hk => HD.out.1 k (.inr (.inr (.inr (.inr hk))))) (by decide))
  have HP1 := Lib.hid hp1
  have HU1 := Lib.hid hu1
  clear hp1 hu1
  go_wp2_with (go_at_call 30; refine HC2.out.mono ?_)
  rintro e w2 hq
  obtain ⟨rfl, H2, hi2, hH2, _, hu2⟩ := HQ2.out e w2 hq
  clear hq
  have HR := Lib.hid (pr_ready hs H0.out HD.out.1 HF.out HD.out.2.1 HD.out.2.2.1 HP1.out HU1.out hi2 hH2 hu2)
  have d0 : w2.cell? ⟨pb, 0, none⟩ = some (.iface 68 (.pointer (some ⟨b, 0, none⟩))) := by have h := HR.out.cell.at 0; rw [h, hkp]; rfl
  have d1 : w2.cell? ⟨pb, 1, none⟩ = some (.pointer (some ⟨tb, 0, none⟩)) := HR.out.cell.at 1
  have hcell := HR.out.cell
  rw [hkp] at hcell
  obtain ⟨Q3, HQ3, HC3⟩ := callsVar (bw_rsP HT (tw_neBW S tb s.k 10) (pb := pb) (b := b) (g := g) (w := w2) (tv := .pointer (some ⟨tb, 0, none⟩)) (Fs := H2) (s := s.rst) hcell HR.out.buf ⟨[], [], HR.out.idle, rfl, fun c hc => (by cases hc)⟩ HR.out.np.1 HR.out.np.2.1 HR.out.np.2.2.1 HR.out.ne.1 HR.out.ne.2.1)
  clear hi2 hH2 hu2 hcell
  go_wp2_with (go_at_call 225; refine HC3.out.mono ?_)
  rintro e w3 hq
  obtain ⟨rfl, cc, cl, hS3, hu3⟩ := HQ3.out e w3 hq
  clear hq
  have hf3 := hu3.heap HR.out.file (by rintro (h | h | h); exact HR.out.ne.2.2.1 h; exact HR.out.ne.2.2.2.1 h; exact HR.out.ne.2.2.2.2 h)
  have x1 : w3.cell? ⟨fb, 1, none⟩ = some (.slice none 0 0) := cell_at hf3 1
  have x2 : w3.cell? ⟨fb, 2, none⟩ = some (.slice none 0 0) := cell_at hf3 2
  have hp3 : PCell pb w3.drew _ _ _ _ := hS3.1
  obtain ⟨Q4, HQ4, HC4⟩ := callsVar (pe_stmtList hp3)
  have HS3 := Lib.hid hS3
  have HU3 := Lib.hid hu3
  clear hf3 hp3 hS3 hu3
  go_wp2_with fail
  have hf3 := HU3.out.heap HR.out.file (by rintro (h | h | h); exact HR.out.ne.2.2.1 h; exact HR.out.ne.2.2.2.1 h; exact HR.out.ne.2.2.2.2 h)
  have HF3 := Lib.hid hf3
  clear hf3
  go_region_held3 (fun w' => w'.cell? ⟨fb, 1, none⟩ = some (.slice none 0 0) ∧ w'.cell? ⟨fb, 2, none⟩ = some (.slice none 0 0)) (first | exact ⟨x1, x2⟩ | exact ⟨y1, y2⟩ | simp [go_sem, *])
    (first | (go_at_call 31; refine HC4.out.mono ?_; rintro e w4 hq; obtain ⟨rfl, hp4, hu4⟩ := HQ4.out e w4 hq; clear hq;
              have hf4 := hu4.heap HF3.out HR.out.ne.2.2.1; have y1 : w4.cell? ⟨fb, 1, none⟩ = some (.slice none 0 0) := cell_at hf4 1; have y2 : w4.cell? ⟨fb, 2, none⟩ = some (.slice none 0 0) := cell_at hf4 2;
              have HP4 := Lib.hid hp4; have HU4 := Lib.hid hu4; clear hp4 hu4 hf4))
  obtain ⟨hS3p, hS3b, hS3n, hS3d1, hS3d2⟩ := HS3.out
  have hb4 := hS3b.stable HT ((Upd.refl _ w3).drew.trans HU4.out) (fun e => hS3d1 e.symm) (fun e => hS3d2 e.symm) fun k hk e => hS3n (e ▸ hk)
  obtain ⟨Q5, HQ5, HC5⟩ := callsVar (pe_newline HT (kp := false) ⟨HP4.out, hb4, hS3n, hS3d1, hS3d2⟩ rfl)
  have HB := Lib.hid (And.intro hS3n (And.intro hS3d1 hS3d2))
  clear hS3p hS3b hS3n hS3d1 hS3d2 hb4
  go_wp2_with (go_at_call 32; refine HC5.out.mono ?_)
  rintro e w5 hq
  obtain ⟨rfl, s5, ⟨hp5, hb5, _⟩, hsame5, hu5⟩ := HQ5.out e w5 hq
  clear hq
  have HFh := Lib.hid (pe_fh hp5)
  obtain ⟨Q6, HQ6, HC6⟩ := callsVar (pe_fc hp5)
  have HB5 := Lib.hid hb5
  have HU5 := Lib.hid hu5
  have HSm := Lib.hid hsame5
  clear hp5 hb5 hu5 hsame5
  go_wp2_with (first | (go_at_call 40; refine HFh.out.mono ?_; rintro e w' ⟨rfl, rfl⟩) | (go_at_call 41; refine HC6.out.mono ?_))
  rintro e w6 hq
  obtain ⟨rfl, hp6, hu6⟩ := HQ6.out e w6 hq
  clear hq
  have e0 : w6.cell? ⟨pb, 0, none⟩ = some (.iface 68 (.pointer (some ⟨b, 0, none⟩))) := hp6.at 0
  have hb6 := HB5.out.stable HT hu6 (fun e => HB.out.2.1 e.symm) (fun e => HB.out.2.2 e.symm) fun k hk e => HB.out.1 (e ▸ hk)
  obtain ⟨Q7, HQ7, HC7⟩ := callsVar (flush_any HT hb6.bufP (by decide))
  have HP6 := Lib.hid hp6
  have HU6 := Lib.hid hu6
  clear hp6 hu6 hb6
  go_wp2_with (go_at_call 224; refine HC7.out.mono ?_)
  rintro e w7 hq
  obtain ⟨rfl, F7, hb7, hF7, hu7⟩ := HQ7.out e w7 hq
  clear hq
  obtain ⟨g7, cur7, Fs7, hb71, hb72, hb73, hb74, hb75, hb76, hb77, hb78, hb79, hb710, hb7F⟩ := hb7
  have hbg7 : BufPg (twSink S tb s.k 10) b g7 w7 Fs7 [10] [] := ⟨cur7, hb71, hb72, hb73, hb74, hb75, hb76, hb77, hb78, hb79, hb710⟩
  obtain ⟨Q8, HQ8, HC8⟩ := callsVar (tw_Flush hs (twI_lf hb77) fun W hW => tw_fnd_empty hs hok hW (by decide))
  have HBg := Lib.hid hbg7
  have HF7 := Lib.hid (show ∀ k, (k = b ∨ k = g7 ∨ Fs7 k) → (k = b ∨ k = g ∨ H2 k) ∨ w6.heap.size ≤ k from fun k hk => hF7 k ((hb7F k).2 hk))
  have HU7 := Lib.hid hu7
  clear hb71 hb72 hb73 hb74 hb75 hb76 hb77 hb78 hb79 hb710 hb7F hbg7 hF7 hu7
  go_wp2_with (go_at_call 42; refine HC8.out.mono ?_)
  rintro e w8 hq
  obtain ⟨rfl, hd8⟩ := HQ8.out e w8 hq
  clear hq
  have HD8 := Lib.hid hd8
  clear hd8
  go_wp2_with fail
  go_ret
  have hs1 : s.Same s5.noCom := PS.Same.trans (t := s.rst) ⟨rfl, rfl, rfl, rfl, rfl, rfl, rfl, rfl, rfl, Nat.zero_le _⟩ (PS.Same.trans (t := { s.rst with cc := cc, cl := cl }) ⟨rfl, rfl, rfl, rfl, rfl, rfl, rfl, rfl, rfl, Nat.le_refl _⟩ (HSm.out.trans ⟨rfl, rfl, rfl, rfl, rfl, rfl, rfl, rfl, rfl, Nat.le_refl _⟩))
  have hl5 : s5.noCom.lin ≤ s5.noCom.lic := Nat.le_trans HSm.out.2.2.2.2.2.2.2.2.2 (Nat.zero_le _)
  have hown : ∀ k, (k = pb ∨ k = b ∨ k = g) → PrOwn pb b g tb G k ∨ Fs k := fun k hk => by
    rcases hk with h | h | h
    · exact .inl (.inl h)
    · exact .inl (.inr (.inl h))
    · exact .inl (.inr (.inr (.inl h)))
  have hu6 : Upd (fun k => PrOwn pb b g tb G k ∨ Fs k) w w6 := ((((HR.out.upd.trans (HU3.out.mono hown)).drew).trans (HU4.out.mono fun k hk => hown k (.inl hk))).trans (HU5.out.mono hown)).trans (HU6.out.mono fun k hk => hown k (.inl hk))
  refine ⟨rfl, print_end hs (w6 := w6) (s6 := s5.noCom) (by rw [hkp]; exact HP6.out) hs1 hl5 HBg.out HF7.out HU7.out HR.out.own ?_ (.inr (.inl rfl)) (.inr (.inr (.inl rfl))) (.inl rfl) hu6 HD8.out⟩
  rintro (h | h | h)
  · exact HB.out.2.1 h
  · exact HB.out.2.2 h
  · exact HB.out.1 h

set_option maxRecDepth 100000 in
set_option maxHeartbeats 8000000 in
theorem pe_Print_bkm {S : Sink} (hs : S.Law Tryz.prog 531) (hok : ∀ c, S.okb c = true) {pb b g tb fb : Nat} {s : PS} {w : World} {G Fs : Nat → Prop} (h : PrIdle pb b g tb s w G) (hkp : s.kp = false) (hk0 : ¬ s.k = 0) (hmi : s.mi = true) (hsi : s.si = false) (hkk : s.k ≤ 1073741824)
    (hI : S.I w Fs []) (hdF : ∀ k, PrOwn pb b g tb G k → ¬ Fs k) (hfile : FileAt fb w) (hfo : ¬ PrOwn pb b g tb G fb) (hfF : ¬ Fs fb) :
    Calls Tryz.prog 23 #[.pointer (some ⟨pb, 0, none⟩), .iface S.ty (.pointer (some S.ptr)), .iface 93 (.pointer (some ⟨fb, 0, none⟩))] w fun e w' => e = .returned .nilIface ∧ PrintDone S pb b tb s (PrOwn pb b g tb G) Fs w w' := by
  have h0 := h
  obtain ⟨hc, hb, ht, hl, hd⟩ := h
  obtain ⟨Q, HQ, HC⟩ := callsVar (pe_reset hc hl)
  obtain ⟨fn, hf⟩ := hfile
  have HK := Lib.hid (And.intro hb (And.intro ht (And.intro hl hd)))
  have HF := Lib.hid hf
  have HD := Lib.hid (And.intro hdF (And.intro hfo (And.intro hfF hI)))
  have H0 := Lib.hid h0
  have HT := tw_law hs hok tb s.k 10
  have hta := fun w => asrt_same (P := Tryz.prog) Tryz.underlying93 50 (.pointer (some ⟨fb, 0, none⟩)) w
  have htw := fun w => asrt_same (P := Tryz.prog) Tryz.underlying70 72 (.pointer (some ⟨tb, 0, none⟩)) w
  have hkI : ¬ (s.k : Int) = 0 := by omega
  have hkw : IntKind.i64.wrap (s.k : Int) = (s.k : Int) := by rw [IntKind.wrap_i64]; omega
  have hkI2 : (s.k : Int) ≤ 1073741824 := by omega
  have hm1 := bw_meth_rs b
  have ha1 := bw_ahead_rs b
  have hm2 := bw_meth_fl b
  have ha2 := bw_ahead_fl b
  clear hc hb ht hl hd hf hdF hfo hfF hI h0
  go_enter Tryz.func23, Tryz.ntmps23
  go_wp2_with (go_at_call 28; refine HC.out.mono ?_)
  rintro e w1 hq
  obtain ⟨rfl, hp1, hu1⟩ := HQ.out e w1 hq
  clear hq
  have c1 : w1.cell? ⟨pb, 1, none⟩ = some (.pointer (some ⟨tb, 0, none⟩)) := hp1.at 1
  have c5 : w1.cell? ⟨pb, 5, none⟩ = some (.int .u64 (s.k : Int)) := hp1.at 5
  have c10 : w1.cell? ⟨pb, 10, none⟩ = some (.bool true) := by rw [hp1.at 10, ← hmi]; rfl
  have c11 : w1.cell? ⟨pb, 11, none⟩ = some (.bool false) := by rw [hp1.at 11, ← hsi]; rfl
  obtain ⟨Q2, HQ2, HC2⟩ := callsVar (tw_Init hs (tb := tb) (w := w1) (G := G) (Fs := Fs) (twd := s.k) (fg := 10) (HK.out.2.1.stable hu1 fun k hk e => by
      subst e
      rcases hk with hk | hk
      · exact HK.out.2.2.2.2.2.1 hk
      · exact HK.out.2.2.2.2.2.2.2.2.1 hk) (hs.stable HD.out.2.2.2 hu1 fun k hk e => HD.out.1 pb (.inl rfl) (e ▸ hk)) (HD.out.1 tb (.inr (.inr (.inr (.inl rfl))))) (fun k hk => HD.out.1 k (.inr (.inr (.inr (.inr hk))))) (by decide))
  have HP1 := Lib.hid hp1
  have HU1 := Lib.hid hu1
  clear hp1 hu1
  go_wp2_with (go_at_call 30; refine HC2.out.mono ?_)
  rintro e w2 hq
  obtain ⟨rfl, H2, hi2, hH2, _, hu2⟩ := HQ2.out e w2 hq
  clear hq
  have HR := Lib.hid (pr_ready hs H0.out HD.out.1 HF.out HD.out.2.1 HD.out.2.2.1 HP1.out HU1.out hi2 hH2 hu2)
  have d0 : w2.cell? ⟨pb, 0, none⟩ = some (.iface 68 (.pointer (some ⟨b, 0, none⟩))) := by have h := HR.out.cell.at 0; rw [h, hkp]; rfl
  have d1 : w2.cell? ⟨pb, 1, none⟩ = some (.pointer (some ⟨tb, 0, none⟩)) := HR.out.cell.at 1
  have hcell := HR.out.cell
  rw [hkp] at hcell
  obtain ⟨Q3, HQ3, HC3⟩ := callsVar (bw_rsP HT (tw_neBW S tb s.k 10) (pb := pb) (b := b) (g := g) (w := w2) (tv := .pointer (some ⟨tb, 0, none⟩)) (Fs := H2) (s := s.rst) hcell HR.out.buf ⟨[], [], HR.out.idle, rfl, fun c hc => (by cases hc)⟩ HR.out.np.1 HR.out.np.2.1 HR.out.np.2.2.1 HR.out.ne.1 HR.out.ne.2.1)
  clear hi2 hH2 hu2 hcell
  go_wp2_with (go_at_call 225; refine HC3.out.mono ?_)
  rintro e w3 hq
  obtain ⟨rfl, cc, cl, hS3, hu3⟩ := HQ3.out e w3 hq
  clear hq
  have hf3 := hu3.heap HR.out.file (by rintro (h | h | h); exact HR.out.ne.2.2.1 h; exact HR.out.ne.2.2.2.1 h; exact HR.out.ne.2.2.2.2 h)
  have x1 : w3.cell? ⟨fb, 1, none⟩ = some (.slice none 0 0) := cell_at hf3 1
  have x2 : w3.cell? ⟨fb, 2, none⟩ = some (.slice none 0 0) := cell_at hf3 2
  have hp3 : PCell pb w3.drew _ _ _ _ := hS3.1
  obtain ⟨Q4, HQ4, HC4⟩ := callsVar (pe_stmtList hp3)
  have HS3 := Lib.hid hS3
  have HU3 := Lib.hid hu3
  clear hf3 hp3 hS3 hu3
  go_wp2_with fail
  have hf3 := HU3.out.heap HR.out.file (by rintro (h | h | h); exact HR.out.ne.2.2.1 h; exact HR.out.ne.2.2.2.1 h; exact HR.out.ne.2.2.2.2 h)
  have HF3 := Lib.hid hf3
  clear hf3
  go_region_held3 (fun w' => w'.cell? ⟨fb, 1, none⟩ = some (.slice none 0 0) ∧ w'.cell? ⟨fb, 2, none⟩ = some (.slice none 0 0)) (first | exact ⟨x1, x2⟩ | exact ⟨y1, y2⟩ | simp [go_sem, *])
    (first | (go_at_call 31; refine HC4.out.mono ?_; rintro e w4 hq; obtain ⟨rfl, hp4, hu4⟩ := HQ4.out e w4 hq; clear hq;
              have hf4 := hu4.heap HF3.out HR.out.ne.2.2.1; have y1 : w4.cell? ⟨fb, 1, none⟩ = some (.slice none 0 0) := cell_at hf4 1; have y2 : w4.cell? ⟨fb, 2, none⟩ = some (.slice none 0 0) := cell_at hf4 2;
              have HP4 := Lib.hid hp4; have HU4 := Lib.hid hu4; clear hp4 hu4 hf4))
  obtain ⟨hS3p, hS3b, hS3n, hS3d1, hS3d2⟩ := HS3.out
  have hb4 := hS3b.stable HT ((Upd.refl _ w3).drew.trans HU4.out) (fun e => hS3d1 e.symm) (fun e => hS3d2 e.symm) fun k hk e => hS3n (e ▸ hk)
  obtain ⟨Q5, HQ5, HC5⟩ := callsVar (pe_newline HT (kp := false) ⟨HP4.out, hb4, hS3n, hS3d1, hS3d2⟩ rfl)
  have HB := Lib.hid (And.intro hS3n (And.intro hS3d1 hS3d2))
  clear hS3p hS3b hS3n hS3d1 hS3d2 hb4
  go_wp2_with (go_at_call 32; refine HC5.out.mono ?_)
  rintro e w5 hq
  obtain ⟨rfl, s5, ⟨hp5, hb5, _⟩, hsame5, hu5⟩ := HQ5.out e w5 hq
  clear hq
  have HFh := Lib.hid (pe_fh hp5)
  obtain ⟨Q6, HQ6, HC6⟩ := callsVar (pe_fc hp5)
  have HB5 := Lib.hid hb5
  have HU5 := Lib.hid hu5
  have HSm := Lib.hid hsame5
  clear hp5 hb5 hu5 hsame5
  go_wp2_with (first | (go_at_call 40; refine HFh.out.mono ?_; rintro e w' ⟨rfl, rfl⟩) | (go_at_call 41; refine HC6.out.mono ?_))
  rintro e w6 hq
  obtain ⟨rfl, hp6, hu6⟩ := HQ6.out e w6 hq
  clear hq
  have e0 : w6.cell? ⟨pb, 0, none⟩ = some (.iface 68 (.pointer (some ⟨b, 0, none⟩))) := hp6.at 0
  have hb6 := HB5.out.stable HT hu6 (fun e => HB.out.2.1 e.symm) (fun e => HB.out.2.2 e.symm) fun k hk e => HB.out.1 (e ▸ hk)
  obtain ⟨Q7, HQ7, HC7⟩ := callsVar (flush_any HT hb6.bufP (by decide))
  have HP6 := Lib.hid hp6
  have HU6 := Lib.hid hu6
  clear hp6 hu6 hb6
  go_wp2_with (go_at_call 224; refine HC7.out.mono ?_)
  rintro e w7 hq
  obtain ⟨rfl, F7, hb7, hF7, hu7⟩ := HQ7.out e w7 hq
  clear hq
  obtain ⟨g7, cur7, Fs7, hb71, hb72, hb73, hb74, hb75, hb76, hb77, hb78, hb79, hb710, hb7F⟩ := hb7
  have hbg7 : BufPg (twSink S tb s.k 10) b g7 w7 Fs7 [10] [] := ⟨cur7, hb71, hb72, hb73, hb74, hb75, hb76, hb77, hb78, hb79, hb710⟩
  obtain ⟨Q8, HQ8, HC8⟩ := callsVar (tw_Flush hs (twI_lf hb77) fun W hW => tw_fnd_empty hs hok hW (by decide))
  have HBg := Lib.hid hbg7
  have HF7 := Lib.hid (show ∀ k, (k = b ∨ k = g7 ∨ Fs7 k) → (k = b ∨ k = g ∨ H2 k) ∨ w6.heap.size ≤ k from fun k hk => hF7 k ((hb7F k).2 hk))
  have HU7 := Lib.hid hu7
  clear hb71 hb72 hb73 hb74 hb75 hb76 hb77 hb78 hb79 hb710 hb7F hbg7 hF7 hu7
  go_wp2_with (go_at_call 42; refine HC8.out.mono ?_)
  rintro e w8 hq
  obtain ⟨rfl, hd8⟩ := HQ8.out e w8 hq
  clear hq
  have HD8 := Lib.hid hd8
  clear hd8
  go_wp2_with fail
  go_ret
  have hs1 : s.Same s5.noCom := PS.Same.trans (t := s.rst) ⟨rfl, rfl, rfl, rfl, rfl, rfl, rfl, rfl, rfl, Nat.zero_le _⟩ (PS.Same.trans (t := { s.rst with cc := cc, cl := cl }) ⟨rfl, rfl, rfl, rfl, rfl, rfl, rfl, rfl, rfl, Nat.le_refl _⟩ (HSm.out.trans ⟨rfl, rfl, rfl, rfl, rfl, rfl, rfl, rfl, rfl, Nat.le_refl _⟩))
  have hl5 : s5.noCom.lin ≤ s5.noCom.lic := Nat.le_trans HSm.out.2.2.2.2.2.2.2.2.2 (Nat.zero_le _)
  have hown : ∀ k, (k = pb ∨ k = b ∨ k = g) → PrOwn pb b g tb G k ∨ Fs k := fun k hk => by
    rcases hk with h | h | h
    · exact .inl (.inl h)
    · exact .inl (.inr (.inl h))
    · exact .inl (.inr (.inr (.inl h)))
  have hu6 : Upd (fun k => PrOwn pb b g tb G k ∨ Fs k) w w6 := ((((HR.out.upd.trans (HU3.out.mono hown)).drew).trans (HU4.out.mono fun k hk => hown k (.inl hk))).trans (HU5.out.mono hown)).trans (HU6.out.mono fun k hk => hown k (.inl hk))
  refine ⟨rfl, print_end hs (w6 := w6) (s6 := s5.noCom) (by rw [hkp]; exact HP6.out) hs1 hl5 HBg.out HF7.out HU7.out HR.out.own ?_ (.inr (.inl rfl)) (.inr (.inr (.inl rfl))) (.inl rfl) hu6 HD8.out⟩
  rintro (h | h | h)
  · exact HB.out.2.1 h
  · exact HB.out.2.2 h
  · exact HB.out.1 h




end Go.Proofs.YtnhmgjgdkcgmfaaGreatFmt
