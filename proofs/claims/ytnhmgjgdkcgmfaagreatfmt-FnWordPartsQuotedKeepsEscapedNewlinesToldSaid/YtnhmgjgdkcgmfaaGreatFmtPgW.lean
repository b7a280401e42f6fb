/-
  Print of a *Word: indentation by tabs or by spaces, minify on or off.
-/
import Derived.Test.YtnhmgjgdkcgmfaaGreatFmtPgA
import Derived.Test.YtnhmgjgdkcgmfaaGreatFmtMf
import Derived.Test.YtnhmgjgdkcgmfaaGreatFmtMb
namespace Go.Proofs.YtnhmgjgdkcgmfaaGreatFmt
open Go.RowKit

set_option maxRecDepth 100000 in
set_option maxHeartbeats 8000000 in
theorem pg_word_0n {S : Sink} (hs : S.Law Tryz.prog 531) (hok : ∀ c, S.okb c = true) {pb b g tb : Nat} {s : PS} {w : World} {G Fs : Nat → Prop} {l : List UInt8} (h : PrIdle pb b g tb s w G) (hkp : s.kp = false) (hk0 : s.k = 0) (hmi : s.mi = false) (_ : s.k ≤ 1073741824)
    (hI : S.I w Fs []) (hdF : ∀ k, PrOwn pb b g tb G k → ¬ Fs k) (hl : l.length + 1 ≤ LIM)
    {wb o lc : Nat} (hlc : lc < 4294967296) (hpos : ∀ W, Upd (fun k => PrOwn pb b g tb G k ∨ Fs k) w W → Calls Tryz.prog 34 #[.pointer (some ⟨wb, 0, none⟩)] W fun e w' => e = .returned (posV o lc) ∧ Upd (fun _ => False) W w')
    (hmid : PgMid S pb b tb (PrOwn pb b g tb G) Fs w s (lc / 16384) 36 #[.pointer (some ⟨pb, 0, none⟩), .pointer (some ⟨wb, 0, none⟩)] l) :
    Calls Tryz.prog 23 #[.pointer (some ⟨pb, 0, none⟩), .iface S.ty (.pointer (some S.ptr)), .iface 103 (.pointer (some ⟨wb, 0, none⟩))] w fun e w' => e = .returned .nilIface ∧ PrintL S pb b tb s (PrOwn pb b g tb G) Fs l w w' := by
  have h0 := h
  obtain ⟨hc, hb, ht, hl0, hd⟩ := h
  obtain ⟨Q, HQ, HC⟩ := callsVar (pe_reset hc hl0)
  have HK := Lib.hid (And.intro hb (And.intro ht (And.intro hl0 hd)))
  have HD := Lib.hid (And.intro hdF (And.intro hI hl))
  have H0 := Lib.hid h0
  have HT := tw_law hs hok tb 8 26
  have htw := fun w => asrt_same (P := Tryz.prog) Tryz.underlying70 72 (.pointer (some ⟨tb, 0, none⟩)) w
  have hta1 := fun w => asrt_other (P := Tryz.prog) Tryz.underlying93 (by kernel_rfl) (t := 103) (by decide) 50 (.pointer (some ⟨wb, 0, none⟩)) w
  have hta2 := fun w => asrt_other (P := Tryz.prog) Tryz.underlying99 (by kernel_rfl) (t := 103) (by decide) 50 (.pointer (some ⟨wb, 0, none⟩)) w
  have hta3 : ∀ w, (Instr.typeAssert (.iface 103 (.pointer (some ⟨wb, 0, none⟩))) 50 101 true).run Tryz.prog w = .ok (.tuple #[.nilIface, .bool false]) w := fun w => run_typeAssert_lacksB (t := 103) Tryz.underlying101 (by kernel_rfl) (by kernel_rfl) _ _ w
  have hta4 := fun w => asrt_same (P := Tryz.prog) Tryz.underlying103 50 (.pointer (some ⟨wb, 0, none⟩)) w
  have HPos := Lib.hid hpos
  have HMid := Lib.hid hmid
  have HLc := Lib.hid hlc
  clear hpos hmid hlc
  have hkI : (s.k : Int) = 0 := by omega
  have hm1 := bw_meth_rs b
  have ha1 := bw_ahead_rs b
  have hm2 := bw_meth_fl b
  have ha2 := bw_ahead_fl b
  clear hc hb ht hl0 hd hdF hI h0 hl
  go_enter Tryz.func23, Tryz.ntmps23
  go_wp2_with (go_at_call 28; refine HC.out.mono ?_)
  rintro e w1 hq
  obtain ⟨rfl, hp1, hu1⟩ := HQ.out e w1 hq
  clear hq
  have c1 : w1.cell? ⟨pb, 1, none⟩ = some (.pointer (some ⟨tb, 0, none⟩)) := hp1.at 1
  have c5 : w1.cell? ⟨pb, 5, none⟩ = some (.int .u64 (s.k : Int)) := hp1.at 5
  have c10 : w1.cell? ⟨pb, 10, none⟩ = some (.bool false) := by rw [hp1.at 10, ← hmi]; rfl
  obtain ⟨Q2, HQ2, HC2⟩ := callsVar (tw_Init hs (tb := tb) (w := w1) (G := G) (Fs := Fs) (twd := 8) (fg := 26) (HK.out.2.1.stable hu1 fun k hk e => by
      subst e
      rcases hk with hk | hk
      · exact HK.out.2.2.2.2.2.1 hk
      · exact HK.out.2.2.2.2.2.2.2.2.1 hk) (hs.stable HD.out.2.1 hu1 fun k hk e => HD.out.1 pb (.inl rfl) (e ▸ hk)) (HD.out.1 tb (.inr (.inr (.inr (.inl rfl))))) (fun k hk => HD.out.1 k (.inr (.inr (.inr (.inr hk))))) (by decide))
  have HP1 := Lib.hid hp1
  have HU1 := Lib.hid hu1
  clear hp1 hu1
  go_wp2_with (go_at_call 30; refine HC2.out.mono ?_)
  rintro e w2 hq
  obtain ⟨rfl, H2, hi2, hH2, _, hu2⟩ := HQ2.out e w2 hq
  clear hq
  have HR := Lib.hid (pg_ready H0.out HD.out.1 HP1.out HU1.out hi2 hH2 hu2)
  have d0 : w2.cell? ⟨pb, 0, none⟩ = some (.iface 68 (.pointer (some ⟨b, 0, none⟩))) := by have h := HR.out.cell.at 0; rw [h, hkp]; rfl
  have d1 : w2.cell? ⟨pb, 1, none⟩ = some (.pointer (some ⟨tb, 0, none⟩)) := HR.out.cell.at 1
  have hcell := HR.out.cell
  rw [hkp] at hcell
  obtain ⟨Q3, HQ3, HC3⟩ := callsVar (bw_rsP HT (tw_neBW S tb 8 26) (pb := pb) (b := b) (g := g) (w := w2) (tv := .pointer (some ⟨tb, 0, none⟩)) (Fs := H2) (s := s.rst) hcell HR.out.buf ⟨[], [], HR.out.idle, rfl, fun c hc => (by cases hc)⟩ HR.out.np.1 HR.out.np.2.1 HR.out.np.2.2 HR.out.ne.1 HR.out.ne.2)
  clear hi2 hH2 hu2 hcell
  go_wp2_with (go_at_call 225; refine HC3.out.mono ?_)
  rintro e w3 hq
  obtain ⟨rfl, cc, cl, hS3, hu3⟩ := HQ3.out e w3 hq
  clear hq
  have hPW3 := PSt.pw hS3
  have hu03 : Upd (fun k => PrOwn pb b g tb G k ∨ Fs k) w w3 := HR.out.upd.trans (hu3.mono fun k hk => by
    rcases hk with h | h | h
    · exact .inl (.inl h)
    · exact .inl (.inr (.inl h))
    · exact .inl (.inr (.inr (.inl h))))
  have hF3 : ∀ k, (k = b ∨ k = g ∨ H2 k) → (PrOwn pb b g tb G k ∨ Fs k) ∨ w.heap.size ≤ k := fun k hk => by
    rcases hk with h | h | h
    · exact .inl (.inl (.inr (.inl h)))
    · exact .inl (.inl (.inr (.inr (.inl h))))
    · exact HR.out.own k h
  have HPW3 := Lib.hid hPW3
  have HU03 := Lib.hid hu03
  have HF3 := Lib.hid hF3
  have HS3 := Lib.hid hS3
  clear hPW3 hu03 hF3 hS3 hu3
  go_wp2_with (first
    | (go_at_call 34; refine (HPos.out w3 HU03.out).mono ?_; rintro e v4 ⟨rfl, hu4⟩; have HU4 := Lib.hid hu4; clear hu4)
    | (go_at_call 35; refine (pos_line _ _ HLc.out _).mono ?_; rintro e v5 ⟨rfl, hu5⟩; have HU5 := Lib.hid (HU4.out.trans hu5); clear hu5
       have hPW5 := HPW3.out.stable HT HU5.out (fun h => h) fun _ _ h => h
       have e19 : v5.cell? ⟨pb, 19, none⟩ = some (.int .u64 0) := hPW5.cell.at 19
       have f19 := hPW5.cell.fr 19
       have HPW5 := Lib.hid hPW5
       clear hPW5
       have hupd : Upd (fun k => k = pb) v5 (v5.setCell ⟨pb, 19, none⟩ (.int .u64 ((lc / 16384 : Nat) : Int))) := (Upd.refl (fun k => k = pb) v5).setCell (p := ⟨pb, 19, none⟩) (.inl rfl) _
       have hc4 : PCell pb (v5.setCell ⟨pb, 19, none⟩ (.int .u64 ((lc / 16384 : Nat) : Int))) (.iface 68 (.pointer (some ⟨b, 0, none⟩))) (.pointer (some ⟨tb, 0, none⟩)) (.pointer none) { s.rst with cc := cc, cl := cl, ln := lc / 16384 } := HPW5.out.cell.set rfl
       have hPW4 : PW (twSink S tb 8 26) pb b (.pointer (some ⟨tb, 0, none⟩)) (v5.setCell ⟨pb, 19, none⟩ (.int .u64 ((lc / 16384 : Nat) : Int))) (fun k => k = b ∨ k = g ∨ H2 k) [] { s.rst with cc := cc, cl := cl, ln := lc / 16384 } := ⟨hc4, HPW5.out.buf.stable HT hupd fun k hk e => HPW5.out.np (e ▸ hk), HPW5.out.np⟩
       have hu04 : Upd (fun k => PrOwn pb b g tb G k ∨ Fs k) w (v5.setCell ⟨pb, 19, none⟩ (.int .u64 ((lc / 16384 : Nat) : Int))) := (HU03.out.trans (HU5.out.mono fun _ h => h.elim)).trans (hupd.mono fun k hk => .inl (.inl hk))
       obtain ⟨Q5, HQ5, HC5⟩ := callsVar (HMid.out 8 26 _ _ _ ⟨cc, cl, rfl⟩ hPW4 HF3.out hu04)
       have hzz := hu04.size
       have HU5W := Lib.hid (show ∀ k, ((k = b ∨ k = g ∨ H2 k) ∨ (v5.setCell ⟨pb, 19, none⟩ (.int .u64 ((lc / 16384 : Nat) : Int))).heap.size ≤ k) → (PrOwn pb b g tb G k ∨ Fs k) ∨ w.heap.size ≤ k from fun k hk => hk.elim (HF3.out k) fun h => .inr (Nat.le_trans hzz h))
       have HU04 := Lib.hid hu04
       clear hc4 hPW4 hu04 hupd hzz)
    | (go_at_call 36; refine HC5.out.mono ?_))
  rintro e w5 hq
  obtain ⟨rfl, s5, hsame5, hlin5, hr5⟩ := HQ5.out e w5 hq
  clear hq
  obtain ⟨F5, hPW5, hF5, hu5⟩ := hr5
  have HFh := Lib.hid (pe_fh hPW5.cell)
  obtain ⟨Q6, HQ6, HC6⟩ := callsVar (pe_fc hPW5.cell)
  have HPW5 := Lib.hid hPW5
  have HU5 := Lib.hid (And.intro hF5 hu5)
  have HSm := Lib.hid (And.intro hsame5 hlin5)
  clear hPW5 hF5 hu5 hsame5 hlin5
  go_wp2_with (first | (go_at_call 40; refine HFh.out.mono ?_; rintro e w' ⟨rfl, rfl⟩) | (go_at_call 41; refine HC6.out.mono ?_))
  rintro e w6 hq
  obtain ⟨rfl, hp6, hu6⟩ := HQ6.out e w6 hq
  clear hq
  have e0 : w6.cell? ⟨pb, 0, none⟩ = some (.iface 68 (.pointer (some ⟨b, 0, none⟩))) := hp6.at 0
  obtain ⟨inner6, pend6, hb6, hl6⟩ := HPW5.out.buf.stable HT hu6 fun k hk e => HPW5.out.np (e ▸ hk)
  have hlen6 : inner6.length + pend6.length ≤ LIM := by
    have h1 := congrArg List.length hl6
    have h2 := HD.out.2.2
    rw [List.length_append] at h1
    omega
  obtain ⟨Q7, HQ7, HC7⟩ := callsVar (flush_any HT hb6 hlen6)
  have HP6 := Lib.hid hp6
  have HU6 := Lib.hid hu6
  have HL6 := Lib.hid hl6
  clear hp6 hu6 hb6 hlen6 hl6
  go_wp2_with (go_at_call 224; refine HC7.out.mono ?_)
  rintro e w7 hq
  obtain ⟨rfl, F7, hb7, hF7, hu7⟩ := HQ7.out e w7 hq
  clear hq
  rw [← HL6.out] at hb7
  obtain ⟨g7, cur7, Fs7, hb71, hb72, hb73, hb74, hb75, hb76, hb77, hb78, hb79, hb710, hb7F⟩ := hb7
  obtain ⟨inner7, t7, hi7, hl7, _⟩ := hb77
  have hlen7 : inner7.length + t7.length + 1 ≤ LIM := by
    have h1 := congrArg List.length hl7
    have h2 := HD.out.2.2
    rw [List.length_append] at h1
    omega
  have htb7 : Fs7 tb := by
    obtain ⟨G7, Fss, hA, hH⟩ := hi7
    exact (hH tb).2 (.inl rfl)
  obtain ⟨Q8, HQ8, HC8⟩ := callsVar (tw_Flush hs hi7 fun W hW => tw_fnd_any hs hok hW hlen7)
  have HBg := Lib.hid (And.intro hb71 (And.intro hb72 (And.intro hb73 (And.intro hb78 (And.intro hb79 (And.intro hb710 (And.intro htb7 hb7F)))))))
  have HF7 := Lib.hid (And.intro hF7 hu7)
  have HL7 := Lib.hid hl7
  clear hb71 hb72 hb73 hb74 hb75 hb76 hb78 hb79 hb710 hb7F hF7 hu7 hi7 hlen7 htb7 hl7
  go_wp2_with (go_at_call 42; refine HC8.out.mono ?_)
  rintro e w8 hq
  obtain ⟨rfl, hd8⟩ := HQ8.out e w8 hq
  clear hq
  rw [← HL7.out] at hd8
  have HD8 := Lib.hid hd8
  clear hd8
  go_wp2_with fail
  go_ret
  obtain ⟨g1, g2, g3, g4, g5, g6, g8, g9⟩ := HBg.out
  have hn6 : ¬ F5 pb := HPW5.out.np
  have hlp := heap_lt HP6.out
  have hF5w : ∀ k, F5 k → (PrOwn pb b g tb G k ∨ Fs k) ∨ w.heap.size ≤ k := fun k hk => HU5W.out k (HU5.out.1 k hk)
  have hu05 := HU04.out.trans' HU5.out.2 fun k (hk : k = pb ∨ _) => by
    rcases hk with h | h
    · exact .inl (.inl (.inl h))
    · exact HF3.out k h
  have hu06 : Upd (fun k => PrOwn pb b g tb G k ∨ Fs k) w w6 := hu05.trans (HU6.out.mono fun k hk => .inl (.inl hk))
  have hu07 : Upd (fun k => PrOwn pb b g tb G k ∨ Fs k) w w7 := hu06.trans' HF7.out.2 hF5w
  have hF7w : ∀ k, F7 k → (PrOwn pb b g tb G k ∨ Fs k) ∨ w.heap.size ≤ k := fun k hk => by
    rcases HF7.out.1 k hk with h | h
    · exact hF5w k h
    · exact .inr (Nat.le_trans hu06.size h)
  have hn7 : ¬ F7 pb := fun hk => by
    rcases HF7.out.1 pb hk with h | h
    · exact hn6 h
    · omega
  refine ⟨rfl, print_endL hkp (HP6.out.keep HF7.out.2 hn6) (HSm.out.1.trans ⟨rfl, rfl, rfl, rfl, rfl, rfl, rfl, rfl, rfl, Nat.le_refl _⟩) HSm.out.2 g1 g2 g3 g4 g5 g6 g8 g9 hn7 hF7w (.inl rfl) hu07 HD8.out⟩

set_option maxRecDepth 100000 in
set_option maxHeartbeats 8000000 in
theorem pg_word_0m {S : Sink} (hs : S.Law Tryz.prog 531) (hok : ∀ c, S.okb c = true) {pb b g tb : Nat} {s : PS} {w : World} {G Fs : Nat → Prop} {l : List UInt8} (h : PrIdle pb b g tb s w G) (hkp : s.kp = false) (hk0 : s.k = 0) (hmi : s.mi = true) (hsi : s.si = false) (_ : s.k ≤ 1073741824)
    (hI : S.I w Fs []) (hdF : ∀ k, PrOwn pb b g tb G k → ¬ Fs k) (hl : l.length + 1 ≤ LIM)
    {wb o lc : Nat} (hlc : lc < 4294967296) (hpos : ∀ W, Upd (fun k => PrOwn pb b g tb G k ∨ Fs k) w W → Calls Tryz.prog 34 #[.pointer (some ⟨wb, 0, none⟩)] W fun e w' => e = .returned (posV o lc) ∧ Upd (fun _ => False) W w')
    (hmid : PgMid S pb b tb (PrOwn pb b g tb G) Fs w s (lc / 16384) 36 #[.pointer (some ⟨pb, 0, none⟩), .pointer (some ⟨wb, 0, none⟩)] l) :
    Calls Tryz.prog 23 #[.pointer (some ⟨pb, 0, none⟩), .iface S.ty (.pointer (some S.ptr)), .iface 103 (.pointer (some ⟨wb, 0, none⟩))] w fun e w' => e = .returned .nilIface ∧ PrintL S pb b tb s (PrOwn pb b g tb G) Fs l w w' := by
  have h0 := h
  obtain ⟨hc, hb, ht, hl0, hd⟩ := h
  obtain ⟨Q, HQ, HC⟩ := callsVar (pe_reset hc hl0)
  have HK := Lib.hid (And.intro hb (And.intro ht (And.intro hl0 hd)))
  have HD := Lib.hid (And.intro hdF (And.intro hI hl))
  have H0 := Lib.hid h0
  have HT := tw_law hs hok tb 8 26
  have htw := fun w => asrt_same (P := Tryz.prog) Tryz.underlying70 72 (.pointer (some ⟨tb, 0, none⟩)) w
  have hta1 := fun w => asrt_other (P := Tryz.prog) Tryz.underlying93 (by kernel_rfl) (t := 103) (by decide) 50 (.pointer (some ⟨wb, 0, none⟩)) w
  have hta2 := fun w => asrt_other (P := Tryz.prog) Tryz.underlying99 (by kernel_rfl) (t := 103) (by decide) 50 (.pointer (some ⟨wb, 0, none⟩)) w
  have hta3 : ∀ w, (Instr.typeAssert (.iface 103 (.pointer (some ⟨wb, 0, none⟩))) 50 101 true).run Tryz.prog w = .ok (.tuple #[.nilIface, .bool false]) w := fun w => run_typeAssert_lacksB (t := 103) Tryz.underlying101 (by kernel_rfl) (by kernel_rfl) _ _ w
  have hta4 := fun w => asrt_same (P := Tryz.prog) Tryz.underlying103 50 (.pointer (some ⟨wb, 0, none⟩)) w
  have HPos := Lib.hid hpos
  have HMid := Lib.hid hmid
  have HLc := Lib.hid hlc
  clear hpos hmid hlc
  have hkI : (s.k : Int) = 0 := by omega
  have hm1 := bw_meth_rs b
  have ha1 := bw_ahead_rs b
  have hm2 := bw_meth_fl b
  have ha2 := bw_ahead_fl b
  clear hc hb ht hl0 hd hdF hI h0 hl
  go_enter Tryz.func23, Tryz.ntmps23
  go_wp2_with (go_at_call 28; refine HC.out.mono ?_)
  rintro e w1 hq
  obtain ⟨rfl, hp1, hu1⟩ := HQ.out e w1 hq
  clear hq
  have c1 : w1.cell? ⟨pb, 1, none⟩ = some (.pointer (some ⟨tb, 0, none⟩)) := hp1.at 1
  have c5 : w1.cell? ⟨pb, 5, none⟩ = some (.int .u64 (s.k : Int)) := hp1.at 5
  have c10 : w1.cell? ⟨pb, 10, none⟩ = some (.bool true) := by rw [hp1.at 10, ← hmi]; rfl
  have c11 : w1.cell? ⟨pb, 11, none⟩ = some (.bool false) := by rw [hp1.at 11, ← hsi]; rfl
  obtain ⟨Q2, HQ2, HC2⟩ := callsVar (tw_Init hs (tb := tb) (w := w1) (G := G) (Fs := Fs) (twd := 8) (fg := 26) (HK.out.2.1.stable hu1 fun k hk e => by
      subst e
      rcases hk with hk | hk
      · exact HK.out.2.2.2.2.2.1 hk
      · exact HK.out.2.2.2.2.2.2.2.2.1 hk) (hs.stable HD.out.2.1 hu1 fun k hk e => HD.out.1 pb (.inl rfl) (e ▸ hk)) (HD.out.1 tb (.inr (.inr (.inr (.inl rfl))))) (fun k hk => HD.out.1 k (.inr (.inr (.inr (.inr hk))))) (by decide))
  have HP1 := Lib.hid hp1
  have HU1 := Lib.hid hu1
  clear hp1 hu1
  go_wp2_with (go_at_call 30; refine HC2.out.mono ?_)
  rintro e w2 hq
  obtain ⟨rfl, H2, hi2, hH2, _, hu2⟩ := HQ2.out e w2 hq
  clear hq
  have HR := Lib.hid (pg_ready H0.out HD.out.1 HP1.out HU1.out hi2 hH2 hu2)
  have d0 : w2.cell? ⟨pb, 0, none⟩ = some (.iface 68 (.pointer (some ⟨b, 0, none⟩))) := by have h := HR.out.cell.at 0; rw [h, hkp]; rfl
  have d1 : w2.cell? ⟨pb, 1, none⟩ = some (.pointer (some ⟨tb, 0, none⟩)) := HR.out.cell.at 1
  have hcell := HR.out.cell
  rw [hkp] at hcell
  obtain ⟨Q3, HQ3, HC3⟩ := callsVar (bw_rsP HT (tw_neBW S tb 8 26) (pb := pb) (b := b) (g := g) (w := w2) (tv := .pointer (some ⟨tb, 0, none⟩)) (Fs := H2) (s := s.rst) hcell HR.out.buf ⟨[], [], HR.out.idle, rfl, fun c hc => (by cases hc)⟩ HR.out.np.1 HR.out.np.2.1 HR.out.np.2.2 HR.out.ne.1 HR.out.ne.2)
  clear hi2 hH2 hu2 hcell
  go_wp2_with (go_at_call 225; refine HC3.out.mono ?_)
  rintro e w3 hq
  obtain ⟨rfl, cc, cl, hS3, hu3⟩ := HQ3.out e w3 hq
  clear hq
  have hPW3 := PSt.pw hS3
  have hu03 : Upd (fun k => PrOwn pb b g tb G k ∨ Fs k) w w3 := HR.out.upd.trans (hu3.mono fun k hk => by
    rcases hk with h | h | h
    · exact .inl (.inl h)
    · exact .inl (.inr (.inl h))
    · exact .inl (.inr (.inr (.inl h))))
  have hF3 : ∀ k, (k = b ∨ k = g ∨ H2 k) → (PrOwn pb b g tb G k ∨ Fs k) ∨ w.heap.size ≤ k := fun k hk => by
    rcases hk with h | h | h
    · exact .inl (.inl (.inr (.inl h)))
    · exact .inl (.inl (.inr (.inr (.inl h))))
    · exact HR.out.own k h
  have HPW3 := Lib.hid hPW3
  have HU03 := Lib.hid hu03
  have HF3 := Lib.hid hF3
  have HS3 := Lib.hid hS3
  clear hPW3 hu03 hF3 hS3 hu3
  go_wp2_with (first
    | (go_at_call 34; refine (HPos.out w3 HU03.out).mono ?_; rintro e v4 ⟨rfl, hu4⟩; have HU4 := Lib.hid hu4; clear hu4)
    | (go_at_call 35; refine (pos_line _ _ HLc.out _).mono ?_; rintro e v5 ⟨rfl, hu5⟩; have HU5 := Lib.hid (HU4.out.trans hu5); clear hu5
       have hPW5 := HPW3.out.stable HT HU5.out (fun h => h) fun _ _ h => h
       have e19 : v5.cell? ⟨pb, 19, none⟩ = some (.int .u64 0) := hPW5.cell.at 19
       have f19 := hPW5.cell.fr 19
       have HPW5 := Lib.hid hPW5
       clear hPW5
       have hupd : Upd (fun k => k = pb) v5 (v5.setCell ⟨pb, 19, none⟩ (.int .u64 ((lc / 16384 : Nat) : Int))) := (Upd.refl (fun k => k = pb) v5).setCell (p := ⟨pb, 19, none⟩) (.inl rfl) _
       have hc4 : PCell pb (v5.setCell ⟨pb, 19, none⟩ (.int .u64 ((lc / 16384 : Nat) : Int))) (.iface 68 (.pointer (some ⟨b, 0, none⟩))) (.pointer (some ⟨tb, 0, none⟩)) (.pointer none) { s.rst with cc := cc, cl := cl, ln := lc / 16384 } := HPW5.out.cell.set rfl
       have hPW4 : PW (twSink S tb 8 26) pb b (.pointer (some ⟨tb, 0, none⟩)) (v5.setCell ⟨pb, 19, none⟩ (.int .u64 ((lc / 16384 : Nat) : Int))) (fun k => k = b ∨ k = g ∨ H2 k) [] { s.rst with cc := cc, cl := cl, ln := lc / 16384 } := ⟨hc4, HPW5.out.buf.stable HT hupd fun k hk e => HPW5.out.np (e ▸ hk), HPW5.out.np⟩
       have hu04 : Upd (fun k => PrOwn pb b g tb G k ∨ Fs k) w (v5.setCell ⟨pb, 19, none⟩ (.int .u64 ((lc / 16384 : Nat) : Int))) := (HU03.out.trans (HU5.out.mono fun _ h => h.elim)).trans (hupd.mono fun k hk => .inl (.inl hk))
       obtain ⟨Q5, HQ5, HC5⟩ := callsVar (HMid.out 8 26 _ _ _ ⟨cc, cl, rfl⟩ hPW4 HF3.out hu04)
       have hzz := hu04.size
       have HU5W := Lib.hid (show ∀ k, ((k = b ∨ k = g ∨ H2 k) ∨ (v5.setCell ⟨pb, 19, none⟩ (.int .u64 ((lc / 16384 : Nat) : Int))).heap.size ≤ k) → (PrOwn pb b g tb G k ∨ Fs k) ∨ w.heap.size ≤ k from fun k hk => hk.elim (HF3.out k) fun h => .inr (Nat.le_trans hzz h))
       have HU04 := Lib.hid hu04
       clear hc4 hPW4 hu04 hupd hzz)
    | (go_at_call 36; refine HC5.out.mono ?_))
  rintro e w5 hq
  obtain ⟨rfl, s5, hsame5, hlin5, hr5⟩ := HQ5.out e w5 hq
  clear hq
  obtain ⟨F5, hPW5, hF5, hu5⟩ := hr5
  have HFh := Lib.hid (pe_fh hPW5.cell)
  obtain ⟨Q6, HQ6, HC6⟩ := callsVar (pe_fc hPW5.cell)
  have HPW5 := Lib.hid hPW5
  have HU5 := Lib.hid (And.intro hF5 hu5)
  have HSm := Lib.hid (And.intro hsame5 hlin5)
  clear hPW5 hF5 hu5 hsame5 hlin5
  go_wp2_with (first | (go_at_call 40; refine HFh.out.mono ?_; rintro e w' ⟨rfl, rfl⟩) | (go_at_call 41; refine HC6.out.mono ?_))
  rintro e w6 hq
  obtain ⟨rfl, hp6, hu6⟩ := HQ6.out e w6 hq
  clear hq
  have e0 : w6.cell? ⟨pb, 0, none⟩ = some (.iface 68 (.pointer (some ⟨b, 0, none⟩))) := hp6.at 0
  obtain ⟨inner6, pend6, hb6, hl6⟩ := HPW5.out.buf.stable HT hu6 fun k hk e => HPW5.out.np (e ▸ hk)
  have hlen6 : inner6.length + pend6.length ≤ LIM := by
    have h1 := congrArg List.length hl6
    have h2 := HD.out.2.2
    rw [List.length_append] at h1
    omega
  obtain ⟨Q7, HQ7, HC7⟩ := callsVar (flush_any HT hb6 hlen6)
  have HP6 := Lib.hid hp6
  have HU6 := Lib.hid hu6
  have HL6 := Lib.hid hl6
  clear hp6 hu6 hb6 hlen6 hl6
  go_wp2_with (go_at_call 224; refine HC7.out.mono ?_)
  rintro e w7 hq
  obtain ⟨rfl, F7, hb7, hF7, hu7⟩ := HQ7.out e w7 hq
  clear hq
  rw [← HL6.out] at hb7
  obtain ⟨g7, cur7, Fs7, hb71, hb72, hb73, hb74, hb75, hb76, hb77, hb78, hb79, hb710, hb7F⟩ := hb7
  obtain ⟨inner7, t7, hi7, hl7, _⟩ := hb77
  have hlen7 : inner7.length + t7.length + 1 ≤ LIM := by
    have h1 := congrArg List.length hl7
    have h2 := HD.out.2.2
    rw [List.length_append] at h1
    omega
  have htb7 : Fs7 tb := by
    obtain ⟨G7, Fss, hA, hH⟩ := hi7
    exact (hH tb).2 (.inl rfl)
  obtain ⟨Q8, HQ8, HC8⟩ := callsVar (tw_Flush hs hi7 fun W hW => tw_fnd_any hs hok hW hlen7)
  have HBg := Lib.hid (And.intro hb71 (And.intro hb72 (And.intro hb73 (And.intro hb78 (And.intro hb79 (And.intro hb710 (And.intro htb7 hb7F)))))))
  have HF7 := Lib.hid (And.intro hF7 hu7)
  have HL7 := Lib.hid hl7
  clear hb71 hb72 hb73 hb74 hb75 hb76 hb78 hb79 hb710 hb7F hF7 hu7 hi7 hlen7 htb7 hl7
  go_wp2_with (go_at_call 42; refine HC8.out.mono ?_)
  rintro e w8 hq
  obtain ⟨rfl, hd8⟩ := HQ8.out e w8 hq
  clear hq
  rw [← HL7.out] at hd8
  have HD8 := Lib.hid hd8
  clear hd8
  go_wp2_with fail
  go_ret
  obtain ⟨g1, g2, g3, g4, g5, g6, g8, g9⟩ := HBg.out
  have hn6 : ¬ F5 pb := HPW5.out.np
  have hlp := heap_lt HP6.out
  have hF5w : ∀ k, F5 k → (PrOwn pb b g tb G k ∨ Fs k) ∨ w.heap.size ≤ k := fun k hk => HU5W.out k (HU5.out.1 k hk)
  have hu05 := HU04.out.trans' HU5.out.2 fun k (hk : k = pb ∨ _) => by
    rcases hk with h | h
    · exact .inl (.inl (.inl h))
    · exact HF3.out k h
  have hu06 : Upd (fun k => PrOwn pb b g tb G k ∨ Fs k) w w6 := hu05.trans (HU6.out.mono fun k hk => .inl (.inl hk))
  have hu07 : Upd (fun k => PrOwn pb b g tb G k ∨ Fs k) w w7 := hu06.trans' HF7.out.2 hF5w
  have hF7w : ∀ k, F7 k → (PrOwn pb b g tb G k ∨ Fs k) ∨ w.heap.size ≤ k := fun k hk => by
    rcases HF7.out.1 k hk with h | h
    · exact hF5w k h
    · exact .inr (Nat.le_trans hu06.size h)
  have hn7 : ¬ F7 pb := fun hk => by
    rcases HF7.out.1 pb hk with h | h
    · exact hn6 h
    · omega
  refine ⟨rfl, print_endL hkp (HP6.out.keep HF7.out.2 hn6) (HSm.out.1.trans ⟨rfl, rfl, rfl, rfl, rfl, rfl, rfl, rfl, rfl, Nat.le_refl _⟩) HSm.out.2 g1 g2 g3 g4 g5 g6 g8 g9 hn7 hF7w (.inl rfl) hu07 HD8.out⟩

set_option maxRecDepth 100000 in
set_option maxHeartbeats 8000000 in
theorem pg_word_kn {S : Sink} (hs : S.Law Tryz.prog 531) (hok : ∀ c, S.okb c = true) {pb b g tb : Nat} {s : PS} {w : World} {G Fs : Nat → Prop} {l : List UInt8} (h : PrIdle pb b g tb s w G) (hkp : s.kp = false) (hk0 : ¬ s.k = 0) (hmi : s.mi = false) (hkk : s.k ≤ 1073741824)
    (hI : S.I w Fs []) (hdF : ∀ k, PrOwn pb b g tb G k → ¬ Fs k) (hl : l.length + 1 ≤ LIM)
    {wb o lc : Nat} (hlc : lc < 4294967296) (hpos : ∀ W, Upd (fun k => PrOwn pb b g tb G k ∨ Fs k) w W → Calls Tryz.prog 34 #[.pointer (some ⟨wb, 0, none⟩)] W fun e w' => e = .returned (posV o lc) ∧ Upd (fun _ => False) W w')
    (hmid : PgMid S pb b tb (PrOwn pb b g tb G) Fs w s (lc / 16384) 36 #[.pointer (some ⟨pb, 0, none⟩), .pointer (some ⟨wb, 0, none⟩)] l) :
    Calls Tryz.prog 23 #[.pointer (some ⟨pb, 0, none⟩), .iface S.ty (.pointer (some S.ptr)), .iface 103 (.pointer (some ⟨wb, 0, none⟩))] w fun e w' => e = .returned .nilIface ∧ PrintL S pb b tb s (PrOwn pb b g tb G) Fs l w w' := by
  have h0 := h
  obtain ⟨hc, hb, ht, hl0, hd⟩ := h
  obtain ⟨Q, HQ, HC⟩ := callsVar (pe_reset hc hl0)
  have HK := Lib.hid (And.intro hb (And.intro ht (And.intro hl0 hd)))
  have HD := Lib.hid (And.intro hdF (And.intro hI hl))
  have H0 := Lib.hid h0
  have HT := tw_law hs hok tb s.k 10
  have htw := fun w => asrt_same (P := Tryz.prog) Tryz.underlying70 72 (.pointer (some ⟨tb, 0, none⟩)) w
  have hta1 := fun w => asrt_other (P := Tryz.prog) Tryz.underlying93 (by kernel_rfl) (t := 103) (by decide) 50 (.pointer (some ⟨wb, 0, none⟩)) w
  have hta2 := fun w => asrt_other (P := Tryz.prog) Tryz.underlying99 (by kernel_rfl) (t := 103) (by decide) 50 (.pointer (some ⟨wb, 0, none⟩)) w
  have hta3 : ∀ w, (Instr.typeAssert (.iface 103 (.pointer (some ⟨wb, 0, none⟩))) 50 101 true).run Tryz.prog w = .ok (.tuple #[.nilIface, .bool false]) w := fun w => run_typeAssert_lacksB (t := 103) Tryz.underlying101 (by kernel_rfl) (by kernel_rfl) _ _ w
  have hta4 := fun w => asrt_same (P := Tryz.prog) Tryz.underlying103 50 (.pointer (some ⟨wb, 0, none⟩)) w
  have HPos := Lib.hid hpos
  have HMid := Lib.hid hmid
  have HLc := Lib.hid hlc
  clear hpos hmid hlc
  have hkI : ¬ (s.k : Int) = 0 := by omega
  have hkw : IntKind.i64.wrap (s.k : Int) = (s.k : Int) := by rw [IntKind.wrap_i64]; omega
  have hkI2 : (s.k : Int) ≤ 1073741824 := by omega
  have hm1 := bw_meth_rs b
  have ha1 := bw_ahead_rs b
  have hm2 := bw_meth_fl b
  have ha2 := bw_ahead_fl b
  clear hc hb ht hl0 hd hdF hI h0 hl
  go_enter Tryz.func23, Tryz.ntmps23
  go_wp2_with (go_at_call 28; refine HC.out.mono ?_)
  rintro e w1 hq
  obtain ⟨rfl, hp1, hu1⟩ := HQ.out e w1 hq
  clear hq
  have c1 : w1.cell? ⟨pb, 1, none⟩ = some (.pointer (some ⟨tb, 0, none⟩)) := hp1.at 1
  have c5 : w1.cell? ⟨pb, 5, none⟩ = some (.int .u64 (s.k : Int)) := hp1.at 5
  have c10 : w1.cell? ⟨pb, 10, none⟩ = some (.bool false) := by rw [hp1.at 10, ← hmi]; rfl
  obtain ⟨Q2, HQ2, HC2⟩ := callsVar (tw_Init hs (tb := tb) (w := w1) (G := G) (Fs := Fs) (twd := s.k) (fg := 10) (HK.out.2.1.stable hu1 fun k hk e => by
      subst e
      rcases hk with hk | hk
      · exact HK.out.2.2.2.2.2.1 hk
      · exact HK.out.2.2.2.2.2.2.2.2.1 hk) (hs.stable HD.out.2.1 hu1 fun k hk e => HD.out.1 pb (.inl rfl) (e ▸ hk)) (HD.out.1 tb (.inr (.inr (.inr (.inl rfl))))) (fun k hk => HD.out.1 k (.inr (.inr (.inr (.inr hk))))) (by decide))
  have HP1 := Lib.hid hp1
  have HU1 := Lib.hid hu1
  clear hp1 hu1
  go_wp2_with (go_at_call 30; refine HC2.out.mono ?_)
  rintro e w2 hq
  obtain ⟨rfl, H2, hi2, hH2, _, hu2⟩ := HQ2.out e w2 hq
  clear hq
  have HR := Lib.hid (pg_ready H0.out HD.out.1 HP1.out HU1.out hi2 hH2 hu2)
  have d0 : w2.cell? ⟨pb, 0, none⟩ = some (.iface 68 (.pointer (some ⟨b, 0, none⟩))) := by have h := HR.out.cell.at 0; rw [h, hkp]; rfl
  have d1 : w2.cell? ⟨pb, 1, none⟩ = some (.pointer (some ⟨tb, 0, none⟩)) := HR.out.cell.at 1
  have hcell := HR.out.cell
  rw [hkp] at hcell
  obtain ⟨Q3, HQ3, HC3⟩ := callsVar (bw_rsP HT (tw_neBW S tb s.k 10) (pb := pb) (b := b) (g := g) (w := w2) (tv := .pointer (some ⟨tb, 0, none⟩)) (Fs := H2) (s := s.rst) hcell HR.out.buf ⟨[], [], HR.out.idle, rfl, fun c hc => (by cases hc)⟩ HR.out.np.1 HR.out.np.2.1 HR.out.np.2.2 HR.out.ne.1 HR.out.ne.2)
  clear hi2 hH2 hu2 hcell
  go_wp2_with (go_at_call 225; refine HC3.out.mono ?_)
  rintro e w3 hq
  obtain ⟨rfl, cc, cl, hS3, hu3⟩ := HQ3.out e w3 hq
  clear hq
  have hPW3 := PSt.pw hS3
  have hu03 : Upd (fun k => PrOwn pb b g tb G k ∨ Fs k) w w3 := HR.out.upd.trans (hu3.mono fun k hk => by
    rcases hk with h | h | h
    · exact .inl (.inl h)
    · exact .inl (.inr (.inl h))
    · exact .inl (.inr (.inr (.inl h))))
  have hF3 : ∀ k, (k = b ∨ k = g ∨ H2 k) → (PrOwn pb b g tb G k ∨ Fs k) ∨ w.heap.size ≤ k := fun k hk => by
    rcases hk with h | h | h
    · exact .inl (.inl (.inr (.inl h)))
    · exact .inl (.inl (.inr (.inr (.inl h))))
    · exact HR.out.own k h
  have HPW3 := Lib.hid hPW3
  have HU03 := Lib.hid hu03
  have HF3 := Lib.hid hF3
  have HS3 := Lib.hid hS3
  clear hPW3 hu03 hF3 hS3 hu3
  go_wp2_with (first
    | (go_at_call 34; refine (HPos.out w3 HU03.out).mono ?_; rintro e v4 ⟨rfl, hu4⟩; have HU4 := Lib.hid hu4; clear hu4)
    | (go_at_call 35; refine (pos_line _ _ HLc.out _).mono ?_; rintro e v5 ⟨rfl, hu5⟩; have HU5 := Lib.hid (HU4.out.trans hu5); clear hu5
       have hPW5 := HPW3.out.stable HT HU5.out (fun h => h) fun _ _ h => h
       have e19 : v5.cell? ⟨pb, 19, none⟩ = some (.int .u64 0) := hPW5.cell.at 19
       have f19 := hPW5.cell.fr 19
       have HPW5 := Lib.hid hPW5
       clear hPW5
       have hupd : Upd (fun k => k = pb) v5 (v5.setCell ⟨pb, 19, none⟩ (.int .u64 ((lc / 16384 : Nat) : Int))) := (Upd.refl (fun k => k = pb) v5).setCell (p := ⟨pb, 19, none⟩) (.inl rfl) _
       have hc4 : PCell pb (v5.setCell ⟨pb, 19, none⟩ (.int .u64 ((lc / 16384 : Nat) : Int))) (.iface 68 (.pointer (some ⟨b, 0, none⟩))) (.pointer (some ⟨tb, 0, none⟩)) (.pointer none) { s.rst with cc := cc, cl := cl, ln := lc / 16384 } := HPW5.out.cell.set rfl
       have hPW4 : PW (twSink S tb s.k 10) pb b (.pointer (some ⟨tb, 0, none⟩)) (v5.setCell ⟨pb, 19, none⟩ (.int .u64 ((lc / 16384 : Nat) : Int))) (fun k => k = b ∨ k = g ∨ H2 k) [] { s.rst with cc := cc, cl := cl, ln := lc / 16384 } := ⟨hc4, HPW5.out.buf.stable HT hupd fun k hk e => HPW5.out.np (e ▸ hk), HPW5.out.np⟩
       have hu04 : Upd (fun k => PrOwn pb b g tb G k ∨ Fs k) w (v5.setCell ⟨pb, 19, none⟩ (.int .u64 ((lc / 16384 : Nat) : Int))) := (HU03.out.trans (HU5.out.mono fun _ h => h.elim)).trans (hupd.mono fun k hk => .inl (.inl hk))
       obtain ⟨Q5, HQ5, HC5⟩ := callsVar (HMid.out s.k 10 _ _ _ ⟨cc, cl, rfl⟩ hPW4 HF3.out hu04)
       have hzz := hu04.size
       have HU5W := Lib.hid (show ∀ k, ((k = b ∨ k = g ∨ H2 k) ∨ (v5.setCell ⟨pb, 19, none⟩ (.int .u64 ((lc / 16384 : Nat) : Int))).heap.size ≤ k) → (PrOwn pb b g tb G k ∨ Fs k) ∨ w.heap.size ≤ k from fun k hk => hk.elim (HF3.out k) fun h => .inr (Nat.le_trans hzz h))
       have HU04 := Lib.hid hu04
       clear hc4 hPW4 hu04 hupd hzz)
    | (go_at_call 36; refine HC5.out.mono ?_))
  rintro e w5 hq
  obtain ⟨rfl, s5, hsame5, hlin5, hr5⟩ := HQ5.out e w5 hq
  clear hq
  obtain ⟨F5, hPW5, hF5, hu5⟩ := hr5
  have HFh := Lib.hid (pe_fh hPW5.cell)
  obtain ⟨Q6, HQ6, HC6⟩ := callsVar (pe_fc hPW5.cell)
  have HPW5 := Lib.hid hPW5
  have HU5 := Lib.hid (And.intro hF5 hu5)
  have HSm := Lib.hid (And.intro hsame5 hlin5)
  clear hPW5 hF5 hu5 hsame5 hlin5
  go_wp2_with (first | (go_at_call 40; refine HFh.out.mono ?_; rintro e w' ⟨rfl, rfl⟩) | (go_at_call 41; refine HC6.out.mono ?_))
  rintro e w6 hq
  obtain ⟨rfl, hp6, hu6⟩ := HQ6.out e w6 hq
  clear hq
  have e0 : w6.cell? ⟨pb, 0, none⟩ = some (.iface 68 (.pointer (some ⟨b, 0, none⟩))) := hp6.at 0
  obtain ⟨inner6, pend6, hb6, hl6⟩ := HPW5.out.buf.stable HT hu6 fun k hk e => HPW5.out.np (e ▸ hk)
  have hlen6 : inner6.length + pend6.length ≤ LIM := by
    have h1 := congrArg List.length hl6
    have h2 := HD.out.2.2
    rw [List.length_append] at h1
    omega
  obtain ⟨Q7, HQ7, HC7⟩ := callsVar (flush_any HT hb6 hlen6)
  have HP6 := Lib.hid hp6
  have HU6 := Lib.hid hu6
  have HL6 := Lib.hid hl6
  clear hp6 hu6 hb6 hlen6 hl6
  go_wp2_with (go_at_call 224; refine HC7.out.mono ?_)
  rintro e w7 hq
  obtain ⟨rfl, F7, hb7, hF7, hu7⟩ := HQ7.out e w7 hq
  clear hq
  rw [← HL6.out] at hb7
  obtain ⟨g7, cur7, Fs7, hb71, hb72, hb73, hb74, hb75, hb76, hb77, hb78, hb79, hb710, hb7F⟩ := hb7
  obtain ⟨inner7, t7, hi7, hl7, _⟩ := hb77
  have hlen7 : inner7.length + t7.length + 1 ≤ LIM := by
    have h1 := congrArg List.length hl7
    have h2 := HD.out.2.2
    rw [List.length_append] at h1
    omega
  have htb7 : Fs7 tb := by
    obtain ⟨G7, Fss, hA, hH⟩ := hi7
    exact (hH tb).2 (.inl rfl)
  obtain ⟨Q8, HQ8, HC8⟩ := callsVar (tw_Flush hs hi7 fun W hW => tw_fnd_any hs hok hW hlen7)
  have HBg := Lib.hid (And.intro hb71 (And.intro hb72 (And.intro hb73 (And.intro hb78 (And.intro hb79 (And.intro hb710 (And.intro htb7 hb7F)))))))
  have HF7 := Lib.hid (And.intro hF7 hu7)
  have HL7 := Lib.hid hl7
  clear hb71 hb72 hb73 hb74 hb75 hb76 hb78 hb79 hb710 hb7F hF7 hu7 hi7 hlen7 htb7 hl7
  go_wp2_with (go_at_call 42; refine HC8.out.mono ?_)
  rintro e w8 hq
  obtain ⟨rfl, hd8⟩ := HQ8.out e w8 hq
  clear hq
  rw [← HL7.out] at hd8
  have HD8 := Lib.hid hd8
  clear hd8
  go_wp2_with fail
  go_ret
  obtain ⟨g1, g2, g3, g4, g5, g6, g8, g9⟩ := HBg.out
  have hn6 : ¬ F5 pb := HPW5.out.np
  have hlp := heap_lt HP6.out
  have hF5w : ∀ k, F5 k → (PrOwn pb b g tb G k ∨ Fs k) ∨ w.heap.size ≤ k := fun k hk => HU5W.out k (HU5.out.1 k hk)
  have hu05 := HU04.out.trans' HU5.out.2 fun k (hk : k = pb ∨ _) => by
    rcases hk with h | h
    · exact .inl (.inl (.inl h))
    · exact HF3.out k h
  have hu06 : Upd (fun k => PrOwn pb b g tb G k ∨ Fs k) w w6 := hu05.trans (HU6.out.mono fun k hk => .inl (.inl hk))
  have hu07 : Upd (fun k => PrOwn pb b g tb G k ∨ Fs k) w w7 := hu06.trans' HF7.out.2 hF5w
  have hF7w : ∀ k, F7 k → (PrOwn pb b g tb G k ∨ Fs k) ∨ w.heap.size ≤ k := fun k hk => by
    rcases HF7.out.1 k hk with h | h
    · exact hF5w k h
    · exact .inr (Nat.le_trans hu06.size h)
  have hn7 : ¬ F7 pb := fun hk => by
    rcases HF7.out.1 pb hk with h | h
    · exact hn6 h
    · omega
  refine ⟨rfl, print_endL hkp (HP6.out.keep HF7.out.2 hn6) (HSm.out.1.trans ⟨rfl, rfl, rfl, rfl, rfl, rfl, rfl, rfl, rfl, Nat.le_refl _⟩) HSm.out.2 g1 g2 g3 g4 g5 g6 g8 g9 hn7 hF7w (.inl rfl) hu07 HD8.out⟩

set_option maxRecDepth 100000 in
set_option maxHeartbeats 8000000 in
theorem pg_word_km {S : Sink} (hs : S.Law Tryz.prog 531) (hok : ∀ c, S.okb c = true) {pb b g tb : Nat} {s : PS} {w : World} {G Fs : Nat → Prop} {l : List UInt8} (h : PrIdle pb b g tb s w G) (hkp : s.kp = false) (hk0 : ¬ s.k = 0) (hmi : s.mi = true) (hsi : s.si = false) (hkk : s.k ≤ 1073741824)
    (hI : S.I w Fs []) (hdF : ∀ k, PrOwn pb b g tb G k → ¬ Fs k) (hl : l.length + 1 ≤ LIM)
    {wb o lc : Nat} (hlc : lc < 4294967296) (hpos : ∀ W, Upd (fun k => PrOwn pb b g tb G k ∨ Fs k) w W → Calls Tryz.prog 34 #[.pointer (some ⟨wb, 0, none⟩)] W fun e w' => e = .returned (posV o lc) ∧ Upd (fun _ => False) W w')
    (hmid : PgMid S pb b tb (PrOwn pb b g tb G) Fs w s (lc / 16384) 36 #[.pointer (some ⟨pb, 0, none⟩), .pointer (some ⟨wb, 0, none⟩)] l) :
    Calls Tryz.prog 23 #[.pointer (some ⟨pb, 0, none⟩), .iface S.ty (.pointer (some S.ptr)), .iface 103 (.pointer (some ⟨wb, 0, none⟩))] w fun e w' => e = .returned .nilIface ∧ PrintL S pb b tb s (PrOwn pb b g tb G) Fs l w w' := by
  have h0 := h
  obtain ⟨hc, hb, ht, hl0, hd⟩ := h
  obtain ⟨Q, HQ, HC⟩ := callsVar (pe_reset hc hl0)
  have HK := Lib.hid (And.intro hb (And.intro ht (And.intro hl0 hd)))
  have HD := Lib.hid (And.intro hdF (And.intro hI hl))
  have H0 := Lib.hid h0
  have HT := tw_law hs hok tb s.k 10
  have htw := fun w => asrt_same (P := Tryz.prog) Tryz.underlying70 72 (.pointer (some ⟨tb, 0, none⟩)) w
  have hta1 := fun w => asrt_other (P := Tryz.prog) Tryz.underlying93 (by kernel_rfl) (t := 103) (by decide) 50 (.pointer (some ⟨wb, 0, none⟩)) w
  have hta2 := fun w => asrt_other (P := Tryz.prog) Tryz.underlying99 (by kernel_rfl) (t := 103) (by decide) 50 (.pointer (some ⟨wb, 0, none⟩)) w
  have hta3 : ∀ w, (Instr.typeAssert (.iface 103 (.pointer (some ⟨wb, 0, none⟩))) 50 101 true).run Tryz.prog w = .ok (.tuple #[.nilIface, .bool false]) w := fun w => run_typeAssert_lacksB (t := 103) Tryz.underlying101 (by kernel_rfl) (by kernel_rfl) _ _ w
  have hta4 := fun w => asrt_same (P := Tryz.prog) Tryz.underlying103 50 (.pointer (some ⟨wb, 0, none⟩)) w
  have HPos := Lib.hid hpos
  have HMid := Lib.hid hmid
  have HLc := Lib.hid hlc
  clear hpos hmid hlc
  have hkI : ¬ (s.k : Int) = 0 := by omega
  have hkw : IntKind.i64.wrap (s.k : Int) = (s.k : Int) := by rw [IntKind.wrap_i64]; omega
  have hkI2 : (s.k : Int) ≤ 1073741824 := by omega
  have hm1 := bw_meth_rs b
  have ha1 := bw_ahead_rs b
  have hm2 := bw_meth_fl b
  have ha2 := bw_ahead_fl b
  clear hc hb ht hl0 hd hdF hI h0 hl
  go_enter Tryz.func23, Tryz.ntmps23
  go_wp2_with (go_at_call 28; refine HC.out.mono ?_)
  rintro e w1 hq
  obtain ⟨rfl, hp1, hu1⟩ := HQ.out e w1 hq
  clear hq
  have c1 : w1.cell? ⟨pb, 1, none⟩ = some (.pointer (some ⟨tb, 0, none⟩)) := hp1.at 1
  have c5 : w1.cell? ⟨pb, 5, none⟩ = some (.int .u64 (s.k : Int)) := hp1.at 5
  have c10 : w1.cell? ⟨pb, 10, none⟩ = some (.bool true) := by rw [hp1.at 10, ← hmi]; rfl
  have c11 : w1.cell? ⟨pb, 11, none⟩ = some (.bool false) := by rw [hp1.at 11, ← hsi]; rfl
  obtain ⟨Q2, HQ2, HC2⟩ := callsVar (tw_Init hs (tb := tb) (w := w1) (G := G) (Fs := Fs) (twd := s.k) (fg := 10) (HK.out.2.1.stable hu1 fun k hk e => by
      subst e
      rcases hk with hk | hk
      · exact HK.out.2.2.2.2.2.1 hk
      · exact HK.out.2.2.2.2.2.2.2.2.1 hk) (hs.stable HD.out.2.1 hu1 fun k hk e => HD.out.1 pb (.inl rfl) (e ▸ hk)) (HD.out.1 tb (.inr (.inr (.inr (.inl rfl))))) (fun k hk => HD.out.1 k (.inr (.inr (.inr (.inr hk))))) (by decide))
  have HP1 := Lib.hid hp1
  have HU1 := Lib.hid hu1
  clear hp1 hu1
  go_wp2_with (go_at_call 30; refine HC2.out.mono ?_)
  rintro e w2 hq
  obtain ⟨rfl, H2, hi2, hH2, _, hu2⟩ := HQ2.out e w2 hq
  clear hq
  have HR := Lib.hid (pg_ready H0.out HD.out.1 HP1.out HU1.out hi2 hH2 hu2)
  have d0 : w2.cell? ⟨pb, 0, none⟩ = some (.iface 68 (.pointer (some ⟨b, 0, none⟩))) := by have h := HR.out.cell.at 0; rw [h, hkp]; rfl
  have d1 : w2.cell? ⟨pb, 1, none⟩ = some (.pointer (some ⟨tb, 0, none⟩)) := HR.out.cell.at 1
  have hcell := HR.out.cell
  rw [hkp] at hcell
  obtain ⟨Q3, HQ3, HC3⟩ := callsVar (bw_rsP HT (tw_neBW S tb s.k 10) (pb := pb) (b := b) (g := g) (w := w2) (tv := .pointer (some ⟨tb, 0, none⟩)) (Fs := H2) (s := s.rst) hcell HR.out.buf ⟨[], [], HR.out.idle, rfl, fun c hc => (by cases hc)⟩ HR.out.np.1 HR.out.np.2.1 HR.out.np.2.2 HR.out.ne.1 HR.out.ne.2)
  clear hi2 hH2 hu2 hcell
  go_wp2_with (go_at_call 225; refine HC3.out.mono ?_)
  rintro e w3 hq
  obtain ⟨rfl, cc, cl, hS3, hu3⟩ := HQ3.out e w3 hq
  clear hq
  have hPW3 := PSt.pw hS3
  have hu03 : Upd (fun k => PrOwn pb b g tb G k ∨ Fs k) w w3 := HR.out.upd.trans (hu3.mono fun k hk => by
    rcases hk with h | h | h
    · exact .inl (.inl h)
    · exact .inl (.inr (.inl h))
    · exact .inl (.inr (.inr (.inl h))))
  have hF3 : ∀ k, (k = b ∨ k = g ∨ H2 k) → (PrOwn pb b g tb G k ∨ Fs k) ∨ w.heap.size ≤ k := fun k hk => by
    rcases hk with h | h | h
    · exact .inl (.inl (.inr (.inl h)))
    · exact .inl (.inl (.inr (.inr (.inl h))))
    · exact HR.out.own k h
  have HPW3 := Lib.hid hPW3
  have HU03 := Lib.hid hu03
  have HF3 := Lib.hid hF3
  have HS3 := Lib.hid hS3
  clear hPW3 hu03 hF3 hS3 hu3
  go_wp2_with (first
    | (go_at_call 34; refine (HPos.out w3 HU03.out).mono ?_; rintro e v4 ⟨rfl, hu4⟩; have HU4 := Lib.hid hu4; clear hu4)
    | (go_at_call 35; refine (pos_line _ _ HLc.out _).mono ?_; rintro e v5 ⟨rfl, hu5⟩; have HU5 := Lib.hid (HU4.out.trans hu5); clear hu5
       have hPW5 := HPW3.out.stable HT HU5.out (fun h => h) fun _ _ h => h
       have e19 : v5.cell? ⟨pb, 19, none⟩ = some (.int .u64 0) := hPW5.cell.at 19
       have f19 := hPW5.cell.fr 19
       have HPW5 := Lib.hid hPW5
       clear hPW5
       have hupd : Upd (fun k => k = pb) v5 (v5.setCell ⟨pb, 19, none⟩ (.int .u64 ((lc / 16384 : Nat) : Int))) := (Upd.refl (fun k => k = pb) v5).setCell (p := ⟨pb, 19, none⟩) (.inl rfl) _
       have hc4 : PCell pb (v5.setCell ⟨pb, 19, none⟩ (.int .u64 ((lc / 16384 : Nat) : Int))) (.iface 68 (.pointer (some ⟨b, 0, none⟩))) (.pointer (some ⟨tb, 0, none⟩)) (.pointer none) { s.rst with cc := cc, cl := cl, ln := lc / 16384 } := HPW5.out.cell.set rfl
       have hPW4 : PW (twSink S tb s.k 10) pb b (.pointer (some ⟨tb, 0, none⟩)) (v5.setCell ⟨pb, 19, none⟩ (.int .u64 ((lc / 16384 : Nat) : Int))) (fun k => k = b ∨ k = g ∨ H2 k) [] { s.rst with cc := cc, cl := cl, ln := lc / 16384 } := ⟨hc4, HPW5.out.buf.stable HT hupd fun k hk e => HPW5.out.np (e ▸ hk), HPW5.out.np⟩
       have hu04 : Upd (fun k => PrOwn pb b g tb G k ∨ Fs k) w (v5.setCell ⟨pb, 19, none⟩ (.int .u64 ((lc / 16384 : Nat) : Int))) := (HU03.out.trans (HU5.out.mono fun _ h => h.elim)).trans (hupd.mono fun k hk => .inl (.inl hk))
       obtain ⟨Q5, HQ5, HC5⟩ := callsVar (HMid.out s.k 10 _ _ _ ⟨cc, cl, rfl⟩ hPW4 HF3.out hu04)
       have hzz := hu04.size
       have HU5W := Lib.hid (show ∀ k, ((k = b ∨ k = g ∨ H2 k) ∨ (v5.setCell ⟨pb, 19, none⟩ (.int .u64 ((lc / 16384 : Nat) : Int))).heap.size ≤ k) → (PrOwn pb b g tb G k ∨ Fs k) ∨ w.heap.size ≤ k from fun k hk => hk.elim (HF3.out k) fun h => .inr (Nat.le_trans hzz h))
       have HU04 := Lib.hid hu04
       clear hc4 hPW4 hu04 hupd hzz)
    | (go_at_call 36; refine HC5.out.mono ?_))
  rintro e w5 hq
  obtain ⟨rfl, s5, hsame5, hlin5, hr5⟩ := HQ5.out e w5 hq
  clear hq
  obtain ⟨F5, hPW5, hF5, hu5⟩ := hr5
  have HFh := Lib.hid (pe_fh hPW5.cell)
  obtain ⟨Q6, HQ6, HC6⟩ := callsVar (pe_fc hPW5.cell)
  have HPW5 := Lib.hid hPW5
  have HU5 := Lib.hid (And.intro hF5 hu5)
  have HSm := Lib.hid (And.intro hsame5 hlin5)
  clear hPW5 hF5 hu5 hsame5 hlin5
  go_wp2_with (first | (go_at_call 40; refine HFh.out.mono ?_; rintro e w' ⟨rfl, rfl⟩) | (go_at_call 41; refine HC6.out.mono ?_))
  rintro e w6 hq
  obtain ⟨rfl, hp6, hu6⟩ := HQ6.out e w6 hq
  clear hq
  have e0 : w6.cell? ⟨pb, 0, none⟩ = some (.iface 68 (.pointer (some ⟨b, 0, none⟩))) := hp6.at 0
  obtain ⟨inner6, pend6, hb6, hl6⟩ := HPW5.out.buf.stable HT hu6 fun k hk e => HPW5.out.np (e ▸ hk)
  have hlen6 : inner6.length + pend6.length ≤ LIM := by
    have h1 := congrArg List.length hl6
    have h2 := HD.out.2.2
    rw [List.length_append] at h1
    omega
  obtain ⟨Q7, HQ7, HC7⟩ := callsVar (flush_any HT hb6 hlen6)
  have HP6 := Lib.hid hp6
  have HU6 := Lib.hid hu6
  have HL6 := Lib.hid hl6
  clear hp6 hu6 hb6 hlen6 hl6
  go_wp2_with (go_at_call 224; refine HC7.out.mono ?_)
  rintro e w7 hq
  obtain ⟨rfl, F7, hb7, hF7, hu7⟩ := HQ7.out e w7 hq
  clear hq
  rw [← HL6.out] at hb7
  obtain ⟨g7, cur7, Fs7, hb71, hb72, hb73, hb74, hb75, hb76, hb77, hb78, hb79, hb710, hb7F⟩ := hb7
  obtain ⟨inner7, t7, hi7, hl7, _⟩ := hb77
  have hlen7 : inner7.length + t7.length + 1 ≤ LIM := by
    have h1 := congrArg List.length hl7
    have h2 := HD.out.2.2
    rw [List.length_append] at h1
    omega
  have htb7 : Fs7 tb := by
    obtain ⟨G7, Fss, hA, hH⟩ := hi7
    exact (hH tb).2 (.inl rfl)
  obtain ⟨Q8, HQ8, HC8⟩ := callsVar (tw_Flush hs hi7 fun W hW => tw_fnd_any hs hok hW hlen7)
  have HBg := Lib.hid (And.intro hb71 (And.intro hb72 (And.intro hb73 (And.intro hb78 (And.intro hb79 (And.intro hb710 (And.intro htb7 hb7F)))))))
  have HF7 := Lib.hid (And.intro hF7 hu7)
  have HL7 := Lib.hid hl7
  clear hb71 hb72 hb73 hb74 hb75 hb76 hb78 hb79 hb710 hb7F hF7 hu7 hi7 hlen7 htb7 hl7
  go_wp2_with (go_at_call 42; refine HC8.out.mono ?_)
  rintro e w8 hq
  obtain ⟨rfl, hd8⟩ := HQ8.out e w8 hq
  clear hq
  rw [← HL7.out] at hd8
  have HD8 := Lib.hid hd8
  clear hd8
  go_wp2_with fail
  go_ret
  obtain ⟨g1, g2, g3, g4, g5, g6, g8, g9⟩ := HBg.out
  have hn6 : ¬ F5 pb := HPW5.out.np
  have hlp := heap_lt HP6.out
  have hF5w : ∀ k, F5 k → (PrOwn pb b g tb G k ∨ Fs k) ∨ w.heap.size ≤ k := fun k hk => HU5W.out k (HU5.out.1 k hk)
  have hu05 := HU04.out.trans' HU5.out.2 fun k (hk : k = pb ∨ _) => by
    rcases hk with h | h
    · exact .inl (.inl (.inl h))
    · exact HF3.out k h
  have hu06 : Upd (fun k => PrOwn pb b g tb G k ∨ Fs k) w w6 := hu05.trans (HU6.out.mono fun k hk => .inl (.inl hk))
  have hu07 : Upd (fun k => PrOwn pb b g tb G k ∨ Fs k) w w7 := hu06.trans' HF7.out.2 hF5w
  have hF7w : ∀ k, F7 k → (PrOwn pb b g tb G k ∨ Fs k) ∨ w.heap.size ≤ k := fun k hk => by
    rcases HF7.out.1 k hk with h | h
    · exact hF5w k h
    · exact .inr (Nat.le_trans hu06.size h)
  have hn7 : ¬ F7 pb := fun hk => by
    rcases HF7.out.1 pb hk with h | h
    · exact hn6 h
    · omega
  refine ⟨rfl, print_endL hkp (HP6.out.keep HF7.out.2 hn6) (HSm.out.1.trans ⟨rfl, rfl, rfl, rfl, rfl, rfl, rfl, rfl, rfl, Nat.le_refl _⟩) HSm.out.2 g1 g2 g3 g4 g5 g6 g8 g9 hn7 hF7w (.inl rfl) hu07 HD8.out⟩
end Go.Proofs.YtnhmgjgdkcgmfaaGreatFmt
