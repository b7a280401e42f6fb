/-
  Print of a *Comment (refused): indentation by tabs or by spaces, minify on or off.
-/
import Derived.Test.YtnhmgjgdkcgmfaaGreatFmtPgA
import Derived.Test.YtnhmgjgdkcgmfaaGreatFmtMf
import Derived.Test.YtnhmgjgdkcgmfaaGreatFmtMb
import Derived.Test.YtnhmgjgdkcgmfaaGreatFmtErrT
namespace Go.Proofs.YtnhmgjgdkcgmfaaGreatFmt
open Go.RowKit

set_option maxRecDepth 100000 in
set_option maxHeartbeats 8000000 in
theorem pg_comment_0n {S : Sink} (hs : S.Law Tryz.prog 531) (hok : ∀ c, S.okb c = true) {pb b g tb : Nat} {s : PS} {w : World} {G Fs : Nat → Prop} (h : PrIdle pb b g tb s w G) (hkp : s.kp = false) (hk0 : s.k = 0) (hmi : s.mi = false) (_ : s.k ≤ 1073741824)
    (hI : S.I w Fs []) (hdF : ∀ k, PrOwn pb b g tb G k → ¬ Fs k)
    {wb : Nat} :
    Calls Tryz.prog 23 #[.pointer (some ⟨pb, 0, none⟩), .iface S.ty (.pointer (some S.ptr)), .iface 266 (.pointer (some ⟨wb, 0, none⟩))] w fun e w' => (∃ t v, e = .returned (.iface t v)) ∧ PrintL S pb b tb s (PrOwn pb b g tb G) Fs [] w w' := by
  have h0 := h
  obtain ⟨hc, hb, ht, hl0, hd⟩ := h
  obtain ⟨Q, HQ, HC⟩ := callsVar (pe_reset hc hl0)
  have HK := Lib.hid (And.intro hb (And.intro ht (And.intro hl0 hd)))
  have HD := Lib.hid (And.intro hdF (And.intro hI trivial))
  have H0 := Lib.hid h0
  have HT := tw_law hs hok tb 8 26
  have htw := fun w => asrt_same (P := Tryz.prog) Tryz.underlying70 72 (.pointer (some ⟨tb, 0, none⟩)) w
  have hta1 := fun w => asrt_other (P := Tryz.prog) Tryz.underlying93 (by kernel_rfl) (t := 266) (by decide) 50 (.pointer (some ⟨wb, 0, none⟩)) w
  have hta2 := fun w => asrt_other (P := Tryz.prog) Tryz.underlying99 (by kernel_rfl) (t := 266) (by decide) 50 (.pointer (some ⟨wb, 0, none⟩)) w
  have hta4 := fun w => asrt_other (P := Tryz.prog) Tryz.underlying103 (by kernel_rfl) (t := 266) (by decide) 50 (.pointer (some ⟨wb, 0, none⟩)) w
  have hta6 := fun w => asrt_other (P := Tryz.prog) Tryz.underlying108 (by kernel_rfl) (t := 266) (by decide) 50 (.pointer (some ⟨wb, 0, none⟩)) w
  have hta3 : ∀ w, (Instr.typeAssert (.iface 266 (.pointer (some ⟨wb, 0, none⟩))) 50 101 true).run Tryz.prog w = .ok (.tuple #[.nilIface, .bool false]) w := fun w => run_typeAssert_lacksB (t := 266) Tryz.underlying101 (by kernel_rfl) (by kernel_rfl) _ _ w
  have hta5 : ∀ w, (Instr.typeAssert (.iface 266 (.pointer (some ⟨wb, 0, none⟩))) 50 66 true).run Tryz.prog w = .ok (.tuple #[.nilIface, .bool false]) w := fun w => run_typeAssert_lacksB (t := 266) Tryz.underlying66 (by kernel_rfl) (by kernel_rfl) _ _ w
  have hkI : (s.k : Int) = 0 := by omega
  have hm1 := bw_meth_rs b
  have ha1 := bw_ahead_rs b
  have hm2 := bw_meth_fl b
  have ha2 := bw_ahead_fl b
  clear hc hb ht hl0 hd hdF hI h0
  go_enter Tryz.func23, Tryz.ntmps23
  go_wp2_with (go_at_call 28; refine HC.out.mono ?_)
  rintro e w1 hq
  obtain ⟨rfl, hp1, hu1⟩ := HQ.out e w1 hq
  clear hq
  have c1 : w1.cell? ⟨pb, 1, none⟩ = some (.pointer (some ⟨tb, 0, none⟩)) := hp1.at 1
  have c5 : w1.cell? ⟨pb, 5, none⟩ = some (.int .u64 (s.k : Int)) := hp1.at 5
  have c10 : w1.cell? ⟨pb, 10, none⟩ = some (.bool false) := by rw [hp1.at 10, ← hmi]; rfl
  obtain ⟨Q2, HQ2, HC2⟩ := callsVar (tw_Init hs (tb := tb) (w := w1) (G := G) (Fs := Fs) (twd := 8) (fg := 26) (HK.out.2.1.stable hu1 fun k hk e => by
      subst e
      rcases hk with hk | hk
      · exact HK.out.2.2.2.2.2.1 hk
      · exact HK.out.2.2.2.2.2.2.2.2.1 hk) (hs.stable HD.out.2.1 hu1 fun k hk e => HD.out.1 pb (.inl rfl) (e ▸ hk)) (HD.out.1 tb (.inr (.inr (.inr (.inl rfl))))) (fun k hk => HD.out.1 k (.inr (.inr (.inr (.inr hk))))) (by decide))
  have HP1 := Lib.hid hp1
  have HU1 := Lib.hid hu1
  clear hp1 hu1
  go_wp2_with (go_at_call 30; refine HC2.out.mono ?_)
  rintro e w2 hq
  obtain ⟨rfl, H2, hi2, hH2, _, hu2⟩ := HQ2.out e w2 hq
  clear hq
  have HR := Lib.hid (pg_ready H0.out HD.out.1 HP1.out HU1.out hi2 hH2 hu2)
  have d0 : w2.cell? ⟨pb, 0, none⟩ = some (.iface 68 (.pointer (some ⟨b, 0, none⟩))) := by have h := HR.out.cell.at 0; rw [h, hkp]; rfl
  have d1 : w2.cell? ⟨pb, 1, none⟩ = some (.pointer (some ⟨tb, 0, none⟩)) := HR.out.cell.at 1
  have hcell := HR.out.cell
  rw [hkp] at hcell
  obtain ⟨Q3, HQ3, HC3⟩ := callsVar (bw_rsP HT (tw_neBW S tb 8 26) (pb := pb) (b := b) (g := g) (w := w2) (tv := .pointer (some ⟨tb, 0, none⟩)) (Fs := H2) (s := s.rst) hcell HR.out.buf ⟨[], [], HR.out.idle, rfl, fun c hc => (by cases hc)⟩ HR.out.np.1 HR.out.np.2.1 HR.out.np.2.2 HR.out.ne.1 HR.out.ne.2)
  clear hi2 hH2 hu2 hcell
  go_wp2_with (go_at_call 225; refine HC3.out.mono ?_)
  rintro e w3 hq
  obtain ⟨rfl, cc, cl, hS3, hu3⟩ := HQ3.out e w3 hq
  clear hq
  have hPW3 := PSt.pw hS3
  have hu03 : Upd (fun k => PrOwn pb b g tb G k ∨ Fs k) w w3 := HR.out.upd.trans (hu3.mono fun k hk => by
    rcases hk with h | h | h
    · exact .inl (.inl h)
    · exact .inl (.inr (.inl h))
    · exact .inl (.inr (.inr (.inl h))))
  have hF3 : ∀ k, (k = b ∨ k = g ∨ H2 k) → (PrOwn pb b g tb G k ∨ Fs k) ∨ w.heap.size ≤ k := fun k hk => by
    rcases hk with h | h | h
    · exact .inl (.inl (.inr (.inl h)))
    · exact .inl (.inl (.inr (.inr (.inl h))))
    · exact HR.out.own k h
  have HPW3 := Lib.hid hPW3
  have HU03 := Lib.hid hu03
  have HF3 := Lib.hid hF3
  have HS3 := Lib.hid hS3
  clear hPW3 hu03 hF3 hS3 hu3
  go_wp2_with (go_at_call 29; refine (fmt_ErrorfT _ _ (.pointer (some ⟨wb, 0, none⟩)) _ (cell_at (heap_alloc_new _ _) 0)).mono ?_)
  rintro e w4 ⟨⟨t, v, rfl⟩, hu4⟩
  have HU4 := Lib.hid (((Upd.refl (fun _ => False) w3).alloc _).trans hu4)
  clear hu4
  go_wp2_with fail
  go_ret
  have hu := HU4.out
  obtain ⟨hc3, hb3, hFp3, hpb3, hpg3⟩ := HS3.out
  have hb4 := hb3.stable HT hu (fun h => h) (fun h => h) fun _ _ h => h
  obtain ⟨cur, h1, h2, h3, h4, h5, h6, ⟨inner, t0, hi, hl0, _⟩, h8, h9, h10⟩ := hb4
  obtain ⟨hi1, hi2⟩ : inner = [] ∧ t0 = [] := by simpa using hl0.symm
  subst hi1 hi2
  have htb : H2 tb := by
    obtain ⟨G7, Fss, hA, hH⟩ := hi
    exact (hH tb).2 (.inl rfl)
  refine ⟨⟨t, v, rfl⟩, print_endL (w7 := w4) (w8 := w4) (F7 := fun k => k = b ∨ k = g ∨ H2 k) hkp (hc3.keep hu fun h => h) ⟨rfl, rfl, rfl, rfl, rfl, rfl, rfl, rfl, rfl, Nat.zero_le _⟩ (Nat.zero_le _) h1 h2 h3 h8 h9 h10 htb (fun k => Iff.rfl) (fun e => ?_) HF3.out (.inl rfl) (HU03.out.trans (hu.mono fun _ h => h.elim)) ⟨H2, hi, fun k hk => .inl hk, Upd.refl _ _⟩⟩
  rcases e with e | e | e
  · exact hpb3 e
  · exact hpg3 e
  · exact hFp3 e


set_option maxRecDepth 100000 in
set_option maxHeartbeats 8000000 in
theorem pg_comment_0m {S : Sink} (hs : S.Law Tryz.prog 531) (hok : ∀ c, S.okb c = true) {pb b g tb : Nat} {s : PS} {w : World} {G Fs : Nat → Prop} (h : PrIdle pb b g tb s w G) (hkp : s.kp = false) (hk0 : s.k = 0) (hmi : s.mi = true) (hsi : s.si = false) (_ : s.k ≤ 1073741824)
    (hI : S.I w Fs []) (hdF : ∀ k, PrOwn pb b g tb G k → ¬ Fs k)
    {wb : Nat} :
    Calls Tryz.prog 23 #[.pointer (some ⟨pb, 0, none⟩), .iface S.ty (.pointer (some S.ptr)), .iface 266 (.pointer (some ⟨wb, 0, none⟩))] w fun e w' => (∃ t v, e = .returned (.iface t v)) ∧ PrintL S pb b tb s (PrOwn pb b g tb G) Fs [] w w' := by
  have h0 := h
  obtain ⟨hc, hb, ht, hl0, hd⟩ := h
  obtain ⟨Q, HQ, HC⟩ := callsVar (pe_reset hc hl0)
  have HK := Lib.hid (And.intro hb (And.intro ht (And.intro hl0 hd)))
  have HD := Lib.hid (And.intro hdF (And.intro hI trivial))
  have H0 := Lib.hid h0
  have HT := tw_law hs hok tb 8 26
  have htw := fun w => asrt_same (P := Tryz.prog) Tryz.underlying70 72 (.pointer (some ⟨tb, 0, none⟩)) w
  have hta1 := fun w => asrt_other (P := Tryz.prog) Tryz.underlying93 (by kernel_rfl) (t := 266) (by decide) 50 (.pointer (some ⟨wb, 0, none⟩)) w
  have hta2 := fun w => asrt_other (P := Tryz.prog) Tryz.underlying99 (by kernel_rfl) (t := 266) (by decide) 50 (.pointer (some ⟨wb, 0, none⟩)) w
  have hta4 := fun w => asrt_other (P := Tryz.prog) Tryz.underlying103 (by kernel_rfl) (t := 266) (by decide) 50 (.pointer (some ⟨wb, 0, none⟩)) w
  have hta6 := fun w => asrt_other (P := Tryz.prog) Tryz.underlying108 (by kernel_rfl) (t := 266) (by decide) 50 (.pointer (some ⟨wb, 0, none⟩)) w
  have hta3 : ∀ w, (Instr.typeAssert (.iface 266 (.pointer (some ⟨wb, 0, none⟩))) 50 101 true).run Tryz.prog w = .ok (.tuple #[.nilIface, .bool false]) w := fun w => run_typeAssert_lacksB (t := 266) Tryz.underlying101 (by kernel_rfl) (by kernel_rfl) _ _ w
  have hta5 : ∀ w, (Instr.typeAssert (.iface 266 (.pointer (some ⟨wb, 0, none⟩))) 50 66 true).run Tryz.prog w = .ok (.tuple #[.nilIface, .bool false]) w := fun w => run_typeAssert_lacksB (t := 266) Tryz.underlying66 (by kernel_rfl) (by kernel_rfl) _ _ w
  have hkI : (s.k : Int) = 0 := by omega
  have hm1 := bw_meth_rs b
  have ha1 := bw_ahead_rs b
  have hm2 := bw_meth_fl b
  have ha2 := bw_ahead_fl b
  clear hc hb ht hl0 hd hdF hI h0
  go_enter Tryz.func23, Tryz.ntmps23
  go_wp2_with (go_at_call 28; refine HC.out.mono ?_)
  rintro e w1 hq
  obtain ⟨rfl, hp1, hu1⟩ := HQ.out e w1 hq
  clear hq
  have c1 : w1.cell? ⟨pb, 1, none⟩ = some (.pointer (some ⟨tb, 0, none⟩)) := hp1.at 1
  have c5 : w1.cell? ⟨pb, 5, none⟩ = some (.int .u64 (s.k : Int)) := hp1.at 5
  have c10 : w1.cell? ⟨pb, 10, none⟩ = some (.bool true) := by rw [hp1.at 10, ← hmi]; rfl
  have c11 : w1.cell? ⟨pb, 11, none⟩ = some (.bool false) := by rw [hp1.at 11, ← hsi]; rfl
  obtain ⟨Q2, HQ2, HC2⟩ := callsVar (tw_Init hs (tb := tb) (w := w1) (G := G) (Fs := Fs) (twd := 8) (fg := 26) (HK.out.2.1.stable hu1 fun k hk e => by
      subst e
      rcases hk with hk | hk
      · exact HK.out.2.2.2.2.2.1 hk
      · exact HK.out.2.2.2.2.2.2.2.2.1 hk) (hs.stable HD.out.2.1 hu1 fun k hk e => HD.out.1 pb (.inl rfl) (e ▸ hk)) (HD.out.1 tb (.inr (.inr (.inr (.inl rfl))))) (fun k hk => HD.out.1 k (.inr (.inr (.inr (.inr hk))))) (by decide))
  have HP1 := Lib.hid hp1
  have HU1 := Lib.hid hu1
  clear hp1 hu1
  go_wp2_with (go_at_call 30; refine HC2.out.mono ?_)
  rintro e w2 hq
  obtain ⟨rfl, H2, hi2, hH2, _, hu2⟩ := HQ2.out e w2 hq
  clear hq
  have HR := Lib.hid (pg_ready H0.out HD.out.1 HP1.out HU1.out hi2 hH2 hu2)
  have d0 : w2.cell? ⟨pb, 0, none⟩ = some (.iface 68 (.pointer (some ⟨b, 0, none⟩))) := by have h := HR.out.cell.at 0; rw [h, hkp]; rfl
  have d1 : w2.cell? ⟨pb, 1, none⟩ = some (.pointer (some ⟨tb, 0, none⟩)) := HR.out.cell.at 1
  have hcell := HR.out.cell
  rw [hkp] at hcell
  obtain ⟨Q3, HQ3, HC3⟩ := callsVar (bw_rsP HT (tw_neBW S tb 8 26) (pb := pb) (b := b) (g := g) (w := w2) (tv := .pointer (some ⟨tb, 0, none⟩)) (Fs := H2) (s := s.rst) hcell HR.out.buf ⟨[], [], HR.out.idle, rfl, fun c hc => (by cases hc)⟩ HR.out.np.1 HR.out.np.2.1 HR.out.np.2.2 HR.out.ne.1 HR.out.ne.2)
  clear hi2 hH2 hu2 hcell
  go_wp2_with (go_at_call 225; refine HC3.out.mono ?_)
  rintro e w3 hq
  obtain ⟨rfl, cc, cl, hS3, hu3⟩ := HQ3.out e w3 hq
  clear hq
  have hPW3 := PSt.pw hS3
  have hu03 : Upd (fun k => PrOwn pb b g tb G k ∨ Fs k) w w3 := HR.out.upd.trans (hu3.mono fun k hk => by
    rcases hk with h | h | h
    · exact .inl (.inl h)
    · exact .inl (.inr (.inl h))
    · exact .inl (.inr (.inr (.inl h))))
  have hF3 : ∀ k, (k = b ∨ k = g ∨ H2 k) → (PrOwn pb b g tb G k ∨ Fs k) ∨ w.heap.size ≤ k := fun k hk => by
    rcases hk with h | h | h
    · exact .inl (.inl (.inr (.inl h)))
    · exact .inl (.inl (.inr (.inr (.inl h))))
    · exact HR.out.own k h
  have HPW3 := Lib.hid hPW3
  have HU03 := Lib.hid hu03
  have HF3 := Lib.hid hF3
  have HS3 := Lib.hid hS3
  clear hPW3 hu03 hF3 hS3 hu3
  go_wp2_with (go_at_call 29; refine (fmt_ErrorfT _ _ (.pointer (some ⟨wb, 0, none⟩)) _ (cell_at (heap_alloc_new _ _) 0)).mono ?_)
  rintro e w4 ⟨⟨t, v, rfl⟩, hu4⟩
  have HU4 := Lib.hid (((Upd.refl (fun _ => False) w3).alloc _).trans hu4)
  clear hu4
  go_wp2_with fail
  go_ret
  have hu := HU4.out
  obtain ⟨hc3, hb3, hFp3, hpb3, hpg3⟩ := HS3.out
  have hb4 := hb3.stable HT hu (fun h => h) (fun h => h) fun _ _ h => h
  obtain ⟨cur, h1, h2, h3, h4, h5, h6, ⟨inner, t0, hi, hl0, _⟩, h8, h9, h10⟩ := hb4
  obtain ⟨hi1, hi2⟩ : inner = [] ∧ t0 = [] := by simpa using hl0.symm
  subst hi1 hi2
  have htb : H2 tb := by
    obtain ⟨G7, Fss, hA, hH⟩ := hi
    exact (hH tb).2 (.inl rfl)
  refine ⟨⟨t, v, rfl⟩, print_endL (w7 := w4) (w8 := w4) (F7 := fun k => k = b ∨ k = g ∨ H2 k) hkp (hc3.keep hu fun h => h) ⟨rfl, rfl, rfl, rfl, rfl, rfl, rfl, rfl, rfl, Nat.zero_le _⟩ (Nat.zero_le _) h1 h2 h3 h8 h9 h10 htb (fun k => Iff.rfl) (fun e => ?_) HF3.out (.inl rfl) (HU03.out.trans (hu.mono fun _ h => h.elim)) ⟨H2, hi, fun k hk => .inl hk, Upd.refl _ _⟩⟩
  rcases e with e | e | e
  · exact hpb3 e
  · exact hpg3 e
  · exact hFp3 e


set_option maxRecDepth 100000 in
set_option maxHeartbeats 8000000 in
theorem pg_comment_kn {S : Sink} (hs : S.Law Tryz.prog 531) (hok : ∀ c, S.okb c = true) {pb b g tb : Nat} {s : PS} {w : World} {G Fs : Nat → Prop} (h : PrIdle pb b g tb s w G) (hkp : s.kp = false) (hk0 : ¬ s.k = 0) (hmi : s.mi = false) (hkk : s.k ≤ 1073741824)
    (hI : S.I w Fs []) (hdF : ∀ k, PrOwn pb b g tb G k → ¬ Fs k)
    {wb : Nat} :
    Calls Tryz.prog 23 #[.pointer (some ⟨pb, 0, none⟩), .iface S.ty (.pointer (some S.ptr)), .iface 266 (.pointer (some ⟨wb, 0, none⟩))] w fun e w' => (∃ t v, e = .returned (.iface t v)) ∧ PrintL S pb b tb s (PrOwn pb b g tb G) Fs [] w w' := by
  have h0 := h
  obtain ⟨hc, hb, ht, hl0, hd⟩ := h
  obtain ⟨Q, HQ, HC⟩ := callsVar (pe_reset hc hl0)
  have HK := Lib.hid (And.intro hb (And.intro ht (And.intro hl0 hd)))
  have HD := Lib.hid (And.intro hdF (And.intro hI trivial))
  have H0 := Lib.hid h0
  have HT := tw_law hs hok tb s.k 10
  have htw := fun w => asrt_same (P := Tryz.prog) Tryz.underlying70 72 (.pointer (some ⟨tb, 0, none⟩)) w
  have hta1 := fun w => asrt_other (P := Tryz.prog) Tryz.underlying93 (by kernel_rfl) (t := 266) (by decide) 50 (.pointer (some ⟨wb, 0, none⟩)) w
  have hta2 := fun w => asrt_other (P := Tryz.prog) Tryz.underlying99 (by kernel_rfl) (t := 266) (by decide) 50 (.pointer (some ⟨wb, 0, none⟩)) w
  have hta4 := fun w => asrt_other (P := Tryz.prog) Tryz.underlying103 (by kernel_rfl) (t := 266) (by decide) 50 (.pointer (some ⟨wb, 0, none⟩)) w
  have hta6 := fun w => asrt_other (P := Tryz.prog) Tryz.underlying108 (by kernel_rfl) (t := 266) (by decide) 50 (.pointer (some ⟨wb, 0, none⟩)) w
  have hta3 : ∀ w, (Instr.typeAssert (.iface 266 (.pointer (some ⟨wb, 0, none⟩))) 50 101 true).run Tryz.prog w = .ok (.tuple #[.nilIface, .bool false]) w := fun w => run_typeAssert_lacksB (t := 266) Tryz.underlying101 (by kernel_rfl) (by kernel_rfl) _ _ w
  have hta5 : ∀ w, (Instr.typeAssert (.iface 266 (.pointer (some ⟨wb, 0, none⟩))) 50 66 true).run Tryz.prog w = .ok (.tuple #[.nilIface, .bool false]) w := fun w => run_typeAssert_lacksB (t := 266) Tryz.underlying66 (by kernel_rfl) (by kernel_rfl) _ _ w
  have hkI : ¬ (s.k : Int) = 0 := by omega
  have hkw : IntKind.i64.wrap (s.k : Int) = (s.k : Int) := by rw [IntKind.wrap_i64]; omega
  have hkI2 : (s.k : Int) ≤ 1073741824 := by omega
  have hm1 := bw_meth_rs b
  have ha1 := bw_ahead_rs b
  have hm2 := bw_meth_fl b
  have ha2 := bw_ahead_fl b
  clear hc hb ht hl0 hd hdF hI h0
  go_enter Tryz.func23, Tryz.ntmps23
  go_wp2_with (go_at_call 28; refine HC.out.mono ?_)
  rintro e w1 hq
  obtain ⟨rfl, hp1, hu1⟩ := HQ.out e w1 hq
  clear hq
  have c1 : w1.cell? ⟨pb, 1, none⟩ = some (.pointer (some ⟨tb, 0, none⟩)) := hp1.at 1
  have c5 : w1.cell? ⟨pb, 5, none⟩ = some (.int .u64 (s.k : Int)) := hp1.at 5
  have c10 : w1.cell? ⟨pb, 10, none⟩ = some (.bool false) := by rw [hp1.at 10, ← hmi]; rfl
  obtain ⟨Q2, HQ2, HC2⟩ := callsVar (tw_Init hs (tb := tb) (w := w1) (G := G) (Fs := Fs) (twd := s.k) (fg := 10) (HK.out.2.1.stable hu1 fun k hk e => by
      subst e
      rcases hk with hk | hk
      · exact HK.out.2.2.2.2.2.1 hk
      · exact HK.out.2.2.2.2.2.2.2.2.1 hk) (hs.stable HD.out.2.1 hu1 fun k hk e => HD.out.1 pb (.inl rfl) (e ▸ hk)) (HD.out.1 tb (.inr (.inr (.inr (.inl rfl))))) (fun k hk => HD.out.1 k (.inr (.inr (.inr (.inr hk))))) (by decide))
  have HP1 := Lib.hid hp1
  have HU1 := Lib.hid hu1
  clear hp1 hu1
  go_wp2_with (go_at_call 30; refine HC2.out.mono ?_)
  rintro e w2 hq
  obtain ⟨rfl, H2, hi2, hH2, _, hu2⟩ := HQ2.out e w2 hq
  clear hq
  have HR := Lib.hid (pg_ready H0.out HD.out.1 HP1.out HU1.out hi2 hH2 hu2)
  have d0 : w2.cell? ⟨pb, 0, none⟩ = some (.iface 68 (.pointer (some ⟨b, 0, none⟩))) := by have h := HR.out.cell.at 0; rw [h, hkp]; rfl
  have d1 : w2.cell? ⟨pb, 1, none⟩ = some (.pointer (some ⟨tb, 0, none⟩)) := HR.out.cell.at 1
  have hcell := HR.out.cell
  rw [hkp] at hcell
  obtain ⟨Q3, HQ3, HC3⟩ := callsVar (bw_rsP HT (tw_neBW S tb s.k 10) (pb := pb) (b := b) (g := g) (w := w2) (tv := .pointer (some ⟨tb, 0, none⟩)) (Fs := H2) (s := s.rst) hcell HR.out.buf ⟨[], [], HR.out.idle, rfl, fun c hc => (by cases hc)⟩ HR.out.np.1 HR.out.np.2.1 HR.out.np.2.2 HR.out.ne.1 HR.out.ne.2)
  clear hi2 hH2 hu2 hcell
  go_wp2_with (go_at_call 225; refine HC3.out.mono ?_)
  rintro e w3 hq
  obtain ⟨rfl, cc, cl, hS3, hu3⟩ := HQ3.out e w3 hq
  clear hq
  have hPW3 := PSt.pw hS3
  have hu03 : Upd (fun k => PrOwn pb b g tb G k ∨ Fs k) w w3 := HR.out.upd.trans (hu3.mono fun k hk => by
    rcases hk with h | h | h
    · exact .inl (.inl h)
    · exact .inl (.inr (.inl h))
    · exact .inl (.inr (.inr (.inl h))))
  have hF3 : ∀ k, (k = b ∨ k = g ∨ H2 k) → (PrOwn pb b g tb G k ∨ Fs k) ∨ w.heap.size ≤ k := fun k hk => by
    rcases hk with h | h | h
    · exact .inl (.inl (.inr (.inl h)))
    · exact .inl (.inl (.inr (.inr (.inl h))))
    · exact HR.out.own k h
  have HPW3 := Lib.hid hPW3
  have HU03 := Lib.hid hu03
  have HF3 := Lib.hid hF3
  have HS3 := Lib.hid hS3
  clear hPW3 hu03 hF3 hS3 hu3
  go_wp2_with (go_at_call 29; refine (fmt_ErrorfT _ _ (.pointer (some ⟨wb, 0, none⟩)) _ (cell_at (heap_alloc_new _ _) 0)).mono ?_)
  rintro e w4 ⟨⟨t, v, rfl⟩, hu4⟩
  have HU4 := Lib.hid (((Upd.refl (fun _ => False) w3).alloc _).trans hu4)
  clear hu4
  go_wp2_with fail
  go_ret
  have hu := HU4.out
  obtain ⟨hc3, hb3, hFp3, hpb3, hpg3⟩ := HS3.out
  have hb4 := hb3.stable HT hu (fun h => h) (fun h => h) fun _ _ h => h
  obtain ⟨cur, h1, h2, h3, h4, h5, h6, ⟨inner, t0, hi, hl0, _⟩, h8, h9, h10⟩ := hb4
  obtain ⟨hi1, hi2⟩ : inner = [] ∧ t0 = [] := by simpa using hl0.symm
  subst hi1 hi2
  have htb : H2 tb := by
    obtain ⟨G7, Fss, hA, hH⟩ := hi
    exact (hH tb).2 (.inl rfl)
  refine ⟨⟨t, v, rfl⟩, print_endL (w7 := w4) (w8 := w4) (F7 := fun k => k = b ∨ k = g ∨ H2 k) hkp (hc3.keep hu fun h => h) ⟨rfl, rfl, rfl, rfl, rfl, rfl, rfl, rfl, rfl, Nat.zero_le _⟩ (Nat.zero_le _) h1 h2 h3 h8 h9 h10 htb (fun k => Iff.rfl) (fun e => ?_) HF3.out (.inl rfl) (HU03.out.trans (hu.mono fun _ h => h.elim)) ⟨H2, hi, fun k hk => .inl hk, Upd.refl _ _⟩⟩
  rcases e with e | e | e
  · exact hpb3 e
  · exact hpg3 e
  · exact hFp3 e


set_option maxRecDepth 100000 in
set_option maxHeartbeats 8000000 in
theorem pg_comment_km {S : Sink} (hs : S.Law Tryz.prog 531) (hok : ∀ c, S.okb c = true) {pb b g tb : Nat} {s : PS} {w : World} {G Fs : Nat → Prop} (h : PrIdle pb b g tb s w G) (hkp : s.kp = false) (hk0 : ¬ s.k = 0) (hmi : s.mi = true) (hsi : s.si = false) (hkk : s.k ≤ 1073741824)
    (hI : S.I w Fs []) (hdF : ∀ k, PrOwn pb b g tb G k → ¬ Fs k)
    {wb : Nat} :
    Calls Tryz.prog 23 #[.pointer (some ⟨pb, 0, none⟩), .iface S.ty (.pointer (some S.ptr)), .iface 266 (.pointer (some ⟨wb, 0, none⟩))] w fun e w' => (∃ t v, e = .returned (.iface t v)) ∧ PrintL S pb b tb s (PrOwn pb b g tb G) Fs [] w w' := by
  have h0 := h
  obtain ⟨hc, hb, ht, hl0, hd⟩ := h
  obtain ⟨Q, HQ, HC⟩ := callsVar (pe_reset hc hl0)
  have HK := Lib.hid (And.intro hb (And.intro ht (And.intro hl0 hd)))
  have HD := Lib.hid (And.intro hdF (And.intro hI trivial))
  have H0 := Lib.hid h0
  have HT := tw_law hs hok tb s.k 10
  have htw := fun w => asrt_same (P := Tryz.prog) Tryz.underlying70 72 (.pointer (some ⟨tb, 0, none⟩)) w
  have hta1 := fun w => asrt_other (P := Tryz.prog) Tryz.underlying93 (by kernel_rfl) (t := 266) (by decide) 50 (.pointer (some ⟨wb, 0, none⟩)) w
  have hta2 := fun w => asrt_other (P := Tryz.prog) Tryz.underlying99 (by kernel_rfl) (t := 266) (by decide) 50 (.pointer (some ⟨wb, 0, none⟩)) w
  have hta4 := fun w => asrt_other (P := Tryz.prog) Tryz.underlying103 (by kernel_rfl) (t := 266) (by decide) 50 (.pointer (some ⟨wb, 0, none⟩)) w
  have hta6 := fun w => asrt_other (P := Tryz.prog) Tryz.underlying108 (by kernel_rfl) (t := 266) (by decide) 50 (.pointer (some ⟨wb, 0, none⟩)) w
  have hta3 : ∀ w, (Instr.typeAssert (.iface 266 (.pointer (some ⟨wb, 0, none⟩))) 50 101 true).run Tryz.prog w = .ok (.tuple #[.nilIface, .bool false]) w := fun w => run_typeAssert_lacksB (t := 266) Tryz.underlying101 (by kernel_rfl) (by kernel_rfl) _ _ w
  have hta5 : ∀ w, (Instr.typeAssert (.iface 266 (.pointer (some ⟨wb, 0, none⟩))) 50 66 true).run Tryz.prog w = .ok (.tuple #[.nilIface, .bool false]) w := fun w => run_typeAssert_lacksB (t := 266) Tryz.underlying66 (by kernel_rfl) (by kernel_rfl) _ _ w
  have hkI : ¬ (s.k : Int) = 0 := by omega
  have hkw : IntKind.i64.wrap (s.k : Int) = (s.k : Int) := by rw [IntKind.wrap_i64]; omega
  have hkI2 : (s.k : Int) ≤ 1073741824 := by omega
  have hm1 := bw_meth_rs b
  have ha1 := bw_ahead_rs b
  have hm2 := bw_meth_fl b
  have ha2 := bw_ahead_fl b
  clear hc hb ht hl0 hd hdF hI h0
  go_enter Tryz.func23, Tryz.ntmps23
  go_wp2_with (go_at_call 28; refine HC.out.mono ?_)
  rintro e w1 hq
  obtain ⟨rfl, hp1, hu1⟩ := HQ.out e w1 hq
  clear hq
  have c1 : w1.cell? ⟨pb, 1, none⟩ = some (.pointer (some ⟨tb, 0, none⟩)) := hp1.at 1
  have c5 : w1.cell? ⟨pb, 5, none⟩ = some (.int .u64 (s.k : Int)) := hp1.at 5
  have c10 : w1.cell? ⟨pb, 10, none⟩ = some (.bool true) := by rw [hp1.at 10, ← hmi]; rfl
  have c11 : w1.cell? ⟨pb, 11, none⟩ = some (.bool false) := by rw [hp1.at 11, ← hsi]; rfl
  obtain ⟨Q2, HQ2, HC2⟩ := callsVar (tw_Init hs (tb := tb) (w := w1) (G := G) (Fs := Fs) (twd := s.k) (fg := 10) (HK.out.2.1.stable hu1 fun k hk e => by
      subst e
      rcases hk with hk | hk
      · exact HK.out.2.2.2.2.2.1 hk
      · exact HK.out.2.2.2.2.2.2.2.2.1 hk) (hs.stable HD.out.2.1 hu1 fun k hk e => HD.out.1 pb (.inl rfl) (e ▸ hk)) (HD.out.1 tb (.inr (.inr (.inr (.inl rfl))))) (fun k hk => HD.out.1 k (.inr (.inr (.inr (.inr hk))))) (by decide))
  have HP1 := Lib.hid hp1
  have HU1 := Lib.hid hu1
  clear hp1 hu1
  go_wp2_with (go_at_call 30; refine HC2.out.mono ?_)
  rintro e w2 hq
  obtain ⟨rfl, H2, hi2, hH2, _, hu2⟩ := HQ2.out e w2 hq
  clear hq
  have HR := Lib.hid (pg_ready H0.out HD.out.1 HP1.out HU1.out hi2 hH2 hu2)
  have d0 : w2.cell? ⟨pb, 0, none⟩ = some (.iface 68 (.pointer (some ⟨b, 0, none⟩))) := by have h := HR.out.cell.at 0; rw [h, hkp]; rfl
  have d1 : w2.cell? ⟨pb, 1, none⟩ = some (.pointer (some ⟨tb, 0, none⟩)) := HR.out.cell.at 1
  have hcell := HR.out.cell
  rw [hkp] at hcell
  obtain ⟨Q3, HQ3, HC3⟩ := callsVar (bw_rsP HT (tw_neBW S tb s.k 10) (pb := pb) (b := b) (g := g) (w := w2) (tv := .pointer (some ⟨tb, 0, none⟩)) (Fs := H2) (s := s.rst) hcell HR.out.buf ⟨[], [], HR.out.idle, rfl, fun c hc => (by cases hc)⟩ HR.out.np.1 HR.out.np.2.1 HR.out.np.2.2 HR.out.ne.1 HR.out.ne.2)
  clear hi2 hH2 hu2 hcell
  go_wp2_with (go_at_call 225; refine HC3.out.mono ?_)
  rintro e w3 hq
  obtain ⟨rfl, cc, cl, hS3, hu3⟩ := HQ3.out e w3 hq
  clear hq
  have hPW3 := PSt.pw hS3
  have hu03 : Upd (fun k => PrOwn pb b g tb G k ∨ Fs k) w w3 := HR.out.upd.trans (hu3.mono fun k hk => by
    rcases hk with h | h | h
    · exact .inl (.inl h)
    · exact .inl (.inr (.inl h))
    · exact .inl (.inr (.inr (.inl h))))
  have hF3 : ∀ k, (k = b ∨ k = g ∨ H2 k) → (PrOwn pb b g tb G k ∨ Fs k) ∨ w.heap.size ≤ k := fun k hk => by
    rcases hk with h | h | h
    · exact .inl (.inl (.inr (.inl h)))
    · exact .inl (.inl (.inr (.inr (.inl h))))
    · exact HR.out.own k h
  have HPW3 := Lib.hid hPW3
  have HU03 := Lib.hid hu03
  have HF3 := Lib.hid hF3
  have HS3 := Lib.hid hS3
  clear hPW3 hu03 hF3 hS3 hu3
  go_wp2_with (go_at_call 29; refine (fmt_ErrorfT _ _ (.pointer (some ⟨wb, 0, none⟩)) _ (cell_at (heap_alloc_new _ _) 0)).mono ?_)
  rintro e w4 ⟨⟨t, v, rfl⟩, hu4⟩
  have HU4 := Lib.hid (((Upd.refl (fun _ => False) w3).alloc _).trans hu4)
  clear hu4
  go_wp2_with fail
  go_ret
  have hu := HU4.out
  obtain ⟨hc3, hb3, hFp3, hpb3, hpg3⟩ := HS3.out
  have hb4 := hb3.stable HT hu (fun h => h) (fun h => h) fun _ _ h => h
  obtain ⟨cur, h1, h2, h3, h4, h5, h6, ⟨inner, t0, hi, hl0, _⟩, h8, h9, h10⟩ := hb4
  obtain ⟨hi1, hi2⟩ : inner = [] ∧ t0 = [] := by simpa using hl0.symm
  subst hi1 hi2
  have htb : H2 tb := by
    obtain ⟨G7, Fss, hA, hH⟩ := hi
    exact (hH tb).2 (.inl rfl)
  refine ⟨⟨t, v, rfl⟩, print_endL (w7 := w4) (w8 := w4) (F7 := fun k => k = b ∨ k = g ∨ H2 k) hkp (hc3.keep hu fun h => h) ⟨rfl, rfl, rfl, rfl, rfl, rfl, rfl, rfl, rfl, Nat.zero_le _⟩ (Nat.zero_le _) h1 h2 h3 h8 h9 h10 htb (fun k => Iff.rfl) (fun e => ?_) HF3.out (.inl rfl) (HU03.out.trans (hu.mono fun _ h => h.elim)) ⟨H2, hi, fun k hk => .inl hk, Upd.refl _ _⟩⟩
  rcases e with e | e | e
  · exact hpb3 e
  · exact hpg3 e
  · exact hFp3 e
end Go.Proofs.YtnhmgjgdkcgmfaaGreatFmt
