/-
  Print of a node by a fresh Printer that indents by tabs: what is asked of the part that prints the node itself, and what is left.
-/
import Derived.Test.YtmdkpihlhdjjaaaGreatFmtKPgA
import Derived.Test.YtmdkpihlhdjjaaaGreatFmtKMbX
import Derived.Test.YtmdkpihlhdjjaaaGreatFmtKMf
import Derived.Test.YtmdkpihlhdjjaaaGreatFmtKErrfX
namespace Go.Proofs.YtmdkpihlhdjjaaaGreatFmt
open Go.RowKit

theorem tw_ok {S : Sink} (hs : S.Law Tryz.prog 561) (hok : ∀ c, S.okb c = true) (tb twd fg : Nat) : TOk (twSink S tb twd fg) := ⟨tw_law hs hok tb twd fg, tw_wstr hs hok tb twd fg, fun _ h => h⟩

/-- A Printer that has not printed yet. -/
def PS.Fresh (s : PS) : Prop := s.cc = 0 ∧ s.cl = false ∧ s.lia = none ∧ s.lic = 0 ∧ s.kp = false
/-- The state in which the node's own print begins. -/
def PS.start (s : PS) (L : Nat) : VS := { k := s.k, bnl := s.bnl, swt := s.swt, spr := s.spr, mi := s.mi, si := s.si, fnl := s.fnl, ws := 2, wn := false, mn := false, sm := s.sm, fl := !s.mi, ln := L, ll := 0, lv := 0, inc := [], nb := false }
def PS.hid (s : PS) : VH := { pca := s.pca, pcc := s.pcc, lia := none, lic := 0, pha := s.pha, phc := s.phc, tp := s.tp }
theorem PS.start_ps {s : PS} (h : s.Fresh) (L : Nat) : { s.rst with ln := L } = (s.start L).ps s.hid := by
  obtain ⟨h1, h2, h3, h4, h5⟩ := h
  cases s
  simp only at h1 h2 h3 h4 h5
  subst h1 h2 h3 h4 h5
  rfl

/-- What lay at w, apart from the blocks of O and Fs, lies there still. -/
def Carried (w : World) (O Fs : Nat → Prop) (pb : Nat) (B : Base) : Prop := ∀ k o, w.heap[k]? = some o → ¬ O k → ¬ Fs k → B.At pb k o

/-- What the part of Print that prints the node itself must do: from an empty text to l. -/
def PvMid (S : Sink) (pb b tb : Nat) (O Fs : Nat → Prop) (w : World) (v0 : VS) (f : FuncId) (args : Array Value) (l : List UInt8) : Prop :=
  ∀ B W, Carried w O Fs pb B → PX (twSink S tb 8 26) pb b (.pointer (some ⟨tb, 0, none⟩)) B W [] v0 →
    Calls Tryz.prog f args W fun e w' => (∃ r, e = .returned r) ∧ ∃ v', PX (twSink S tb 8 26) pb b (.pointer (some ⟨tb, 0, none⟩)) B w' l v'
/-- The position of the node. -/
def PvPos (S : Sink) (pb b tb : Nat) (O Fs : Nat → Prop) (w : World) (f : FuncId) (args : Array Value) (o lc : Nat) : Prop :=
  ∀ B W v, Carried w O Fs pb B → PX (twSink S tb 8 26) pb b (.pointer (some ⟨tb, 0, none⟩)) B W [] v →
    Calls Tryz.prog f args W fun e w' => e = .returned (posV o lc) ∧ Upd (fun _ => False) W w'

/-- What Print leaves. -/
def PrintV (S : Sink) (O Fs : Nat → Prop) (l : List UInt8) (w w' : World) : Prop := ∃ F', S.I w' F' l ∧ (∀ k, F' k → (O k ∨ Fs k) ∨ w.heap.size ≤ k) ∧ Upd (fun k => O k ∨ Fs k) w w'

theorem print_endV {S : Sink} {tb twd fg : Nat} {w w7 w8 : World} {O Fs F7 Fs7 : Nat → Prop} {b g : Nat} {l : List UInt8} (hF : ∀ k, F7 k ↔ k = b ∨ k = g ∨ Fs7 k) (ho7 : ∀ k, F7 k → (O k ∨ Fs k) ∨ w.heap.size ≤ k) (hu7 : Upd (fun k => O k ∨ Fs k) w w7)
    (h8 : TwDone S tb Fs7 l [] twd fg w7 w8) : PrintV S O Fs l w w8 := by
  obtain ⟨H8, hi8, hH8, hu8⟩ := h8
  obtain ⟨G, F8, hraw, hI8, hGF, hFt8, hHiff⟩ := hi8.sink
  refine ⟨F8, hI8, fun k hk => ?_, hu7.trans' hu8 fun k hk => ho7 k ((hF k).2 (.inr (.inr hk)))⟩
  rcases hH8 k ((hHiff k).2 (.inr (.inr hk))) with h | h
  · exact ho7 k ((hF k).2 (.inr (.inr h)))
  · exact .inr (Nat.le_trans hu7.size h)

theorem bw_rsQ {T : Sink} (hs : T.Law Tryz.prog 561) (hne : T.NeBW Tryz.prog) {pb b g : Nat} {w : World} {wv tv cv : Value} {Fs : Nat → Prop} {s : PS} (hp : PCell pb w wv tv cv s) (hr : BufRaw b g w) (hI : T.I w Fs []) (hFp : ¬ Fs pb) (hFb : ¬ Fs b) (hFg : ¬ Fs g) (hpb : pb ≠ b) (hpg : pb ≠ g) :
    Calls Tryz.prog 240 #[.pointer (some ⟨b, 0, none⟩), .iface T.ty (.pointer (some T.ptr))] w fun e w' => e = .returned (.tuple #[]) ∧ PSt T pb b g wv tv cv w' Fs [] [] s ∧ Upd (fun k => k = pb ∨ k = b ∨ k = g) w w' := by
  refine (bw_reset hs hne hr hI hFb hFg).mono ?_
  rintro e w2 ⟨rfl, hB2, hu2⟩
  exact ⟨rfl, ⟨hp.keep hu2 (fun e => hpb e), hB2, hFp, hpb, hpg⟩, hu2.mono fun k hk => .inr (.inl hk)⟩

theorem carried_of {w w3 : World} {O Fs F3 : Nat → Prop} {pb : Nat} (hO : O pb) (hu : Upd (fun k => O k ∨ Fs k) w w3) (hF : ∀ k, F3 k → (O k ∨ Fs k) ∨ w.heap.size ≤ k) : Carried w O Fs pb ⟨w3, F3⟩ := by
  intro k o hk h1 h2
  refine ⟨hu.heap hk fun e => e.elim h1 h2, fun e => h1 (e ▸ hO), fun e => ?_⟩
  rcases hF k e with h3 | h3
  · exact h3.elim h1 h2
  · have := heap_lt hk
    omega

/-- A kind of word part, as Print looks at it. -/
structure PartTy (t : TypeId) (posf : FuncId) : Prop where
  a1 : ∀ (x : Option Addr) w, (Instr.typeAssert (.iface t (.pointer x)) 94 98 true).run Tryz.prog w = .ok (.tuple #[.pointer none, .bool false]) w
  a2 : ∀ (x : Option Addr) w, (Instr.typeAssert (.iface t (.pointer x)) 94 104 true).run Tryz.prog w = .ok (.tuple #[.pointer none, .bool false]) w
  a3 : ∀ (x : Option Addr) w, (Instr.typeAssert (.iface t (.pointer x)) 94 106 true).run Tryz.prog w = .ok (.tuple #[.nilIface, .bool false]) w
  a4 : ∀ (x : Option Addr) w, (Instr.typeAssert (.iface t (.pointer x)) 94 108 true).run Tryz.prog w = .ok (.tuple #[.pointer none, .bool false]) w
  a5 : ∀ (x : Option Addr) w, (Instr.typeAssert (.iface t (.pointer x)) 94 113 true).run Tryz.prog w = .ok (.tuple #[.iface t (.pointer x), .bool true]) w
  m : ∀ (a : Addr) w, (method 561 t (.pointer (some a)) "Pos").run Tryz.prog w = .ok (posf, .pointer (some a)) w
  n : ∀ (a : Addr) w, (nilAhead 561 t (.pointer (some a)) "Pos").run Tryz.prog w = .ok (some false) w
  e : ∀ args w, (callFunc posf args).run Tryz.prog w = .ok (.enter posf args) w

theorem partTy_lit : PartTy 183 115 where
  a1 := fun x w => asrt_other (P := Tryz.prog) Tryz.underlying98 (by kernel_rfl) (t := 183) (by decide) 94 (.pointer x) w
  a2 := fun x w => asrt_other (P := Tryz.prog) Tryz.underlying104 (by kernel_rfl) (t := 183) (by decide) 94 (.pointer x) w
  a3 := fun x w => run_typeAssert_lacksB (t := 183) Tryz.underlying106 (by kernel_rfl) (by kernel_rfl) _ _ w
  a4 := fun x w => asrt_other (P := Tryz.prog) Tryz.underlying108 (by kernel_rfl) (t := 183) (by decide) 94 (.pointer x) w
  a5 := fun x w => run_typeAssert_hasB (t := 183) Tryz.underlying113 (by kernel_rfl) _ _ w
  m := fun a w => by kernel_rfl
  n := fun a w => by kernel_rfl
  e := fun args w => by kernel_rfl

theorem partTy_sgl : PartTy 233 308 where
  a1 := fun x w => asrt_other (P := Tryz.prog) Tryz.underlying98 (by kernel_rfl) (t := 233) (by decide) 94 (.pointer x) w
  a2 := fun x w => asrt_other (P := Tryz.prog) Tryz.underlying104 (by kernel_rfl) (t := 233) (by decide) 94 (.pointer x) w
  a3 := fun x w => run_typeAssert_lacksB (t := 233) Tryz.underlying106 (by kernel_rfl) (by kernel_rfl) _ _ w
  a4 := fun x w => asrt_other (P := Tryz.prog) Tryz.underlying108 (by kernel_rfl) (t := 233) (by decide) 94 (.pointer x) w
  a5 := fun x w => run_typeAssert_hasB (t := 233) Tryz.underlying113 (by kernel_rfl) _ _ w
  m := fun a w => by kernel_rfl
  n := fun a w => by kernel_rfl
  e := fun args w => by kernel_rfl

theorem partTy_dbl : PartTy 236 311 where
  a1 := fun x w => asrt_other (P := Tryz.prog) Tryz.underlying98 (by kernel_rfl) (t := 236) (by decide) 94 (.pointer x) w
  a2 := fun x w => asrt_other (P := Tryz.prog) Tryz.underlying104 (by kernel_rfl) (t := 236) (by decide) 94 (.pointer x) w
  a3 := fun x w => run_typeAssert_lacksB (t := 236) Tryz.underlying106 (by kernel_rfl) (by kernel_rfl) _ _ w
  a4 := fun x w => asrt_other (P := Tryz.prog) Tryz.underlying108 (by kernel_rfl) (t := 236) (by decide) 94 (.pointer x) w
  a5 := fun x w => run_typeAssert_hasB (t := 236) Tryz.underlying113 (by kernel_rfl) _ _ w
  m := fun a w => by kernel_rfl
  n := fun a w => by kernel_rfl
  e := fun args w => by kernel_rfl

theorem partTy_pe : PartTy 240 316 where
  a1 := fun x w => asrt_other (P := Tryz.prog) Tryz.underlying98 (by kernel_rfl) (t := 240) (by decide) 94 (.pointer x) w
  a2 := fun x w => asrt_other (P := Tryz.prog) Tryz.underlying104 (by kernel_rfl) (t := 240) (by decide) 94 (.pointer x) w
  a3 := fun x w => run_typeAssert_lacksB (t := 240) Tryz.underlying106 (by kernel_rfl) (by kernel_rfl) _ _ w
  a4 := fun x w => asrt_other (P := Tryz.prog) Tryz.underlying108 (by kernel_rfl) (t := 240) (by decide) 94 (.pointer x) w
  a5 := fun x w => run_typeAssert_hasB (t := 240) Tryz.underlying113 (by kernel_rfl) _ _ w
  m := fun a w => by kernel_rfl
  n := fun a w => by kernel_rfl
  e := fun args w => by kernel_rfl

theorem partTy_cs : PartTy 238 107 where
  a1 := fun x w => asrt_other (P := Tryz.prog) Tryz.underlying98 (by kernel_rfl) (t := 238) (by decide) 94 (.pointer x) w
  a2 := fun x w => asrt_other (P := Tryz.prog) Tryz.underlying104 (by kernel_rfl) (t := 238) (by decide) 94 (.pointer x) w
  a3 := fun x w => run_typeAssert_lacksB (t := 238) Tryz.underlying106 (by kernel_rfl) (by kernel_rfl) _ _ w
  a4 := fun x w => asrt_other (P := Tryz.prog) Tryz.underlying108 (by kernel_rfl) (t := 238) (by decide) 94 (.pointer x) w
  a5 := fun x w => run_typeAssert_hasB (t := 238) Tryz.underlying113 (by kernel_rfl) _ _ w
  m := fun a w => by kernel_rfl
  n := fun a w => by kernel_rfl
  e := fun args w => by kernel_rfl

set_option maxRecDepth 100000 in
set_option maxHeartbeats 8000000 in
theorem pv_part_n {S : Sink} (hs : S.Law Tryz.prog 561) (hok : ∀ c, S.okb c = true) {pb b g tb : Nat} {s : PS} {w : World} {G Fs : Nat → Prop} {l : List UInt8} (h : PrIdle pb b g tb s w G) (hkp : s.kp = false) (hk0 : s.k = 0) (hmi : s.mi = false) 
    (hI : S.I w Fs []) (hdF : ∀ k, PrOwn pb b g tb G k → ¬ Fs k) (hl : l.length + 1 ≤ LIM)
    (hfr : s.Fresh) {t : TypeId} {posf : FuncId} (hpt : PartTy t posf) {nb o lc : Nat} (hlc : lc < 4294967296)
    (hpos : PvPos S pb b tb (PrOwn pb b g tb G) Fs w posf #[.pointer (some ⟨nb, 0, none⟩)] o lc)
    (hmid : PvMid S pb b tb (PrOwn pb b g tb G) Fs w (s.start (lc / 16384)) 43 #[.pointer (some ⟨pb, 0, none⟩), .iface t (.pointer (some ⟨nb, 0, none⟩)), .nilIface] l) :
    Calls Tryz.prog 12 #[.pointer (some ⟨pb, 0, none⟩), .iface S.ty (.pointer (some S.ptr)), .iface t (.pointer (some ⟨nb, 0, none⟩))] w fun e w' => e = .returned .nilIface ∧ PrintV S (PrOwn pb b g tb G) Fs l w w' := by
  have h0 := h
  obtain ⟨hc, hb, ht, hl0, hd⟩ := h
  obtain ⟨Q, HQ, HC⟩ := callsVar (pe_reset hc hl0)
  have HK := Lib.hid (And.intro hb (And.intro ht (And.intro hl0 hd)))
  have HD := Lib.hid (And.intro hdF (And.intro hI hl))
  have H0 := Lib.hid h0
  have HT := tw_law hs hok tb 8 26
  have htw := fun w => asrt_same (P := Tryz.prog) Tryz.underlying73 75 (.pointer (some ⟨tb, 0, none⟩)) w
  have hta1 := hpt.a1 (some ⟨nb, 0, none⟩)
  have hta2 := hpt.a2 (some ⟨nb, 0, none⟩)
  have hta3 := hpt.a3 (some ⟨nb, 0, none⟩)
  have hta4 := hpt.a4 (some ⟨nb, 0, none⟩)
  have hta5 := hpt.a5 (some ⟨nb, 0, none⟩)
  have hpm := hpt.m ⟨nb, 0, none⟩
  have hpn := hpt.n ⟨nb, 0, none⟩
  have hpe := hpt.e
  have HLc := Lib.hid hlc
  clear hlc
  have hkI : (s.k : Int) = 0 := by omega
  have hm1 := bw_meth_rs b
  have ha1 := bw_ahead_rs b
  have hm2 := bw_meth_fl b
  have ha2 := bw_ahead_fl b
  clear hc hb ht hl0 hd hdF hI h0 hl
  go_enter Tryz.func12, Tryz.ntmps12
  go_wp2_with (go_at_call 34; refine HC.out.mono ?_)
  rintro e w1 hq
  obtain ⟨rfl, hp1, hu1⟩ := HQ.out e w1 hq
  clear hq
  have c1 : w1.cell? ⟨pb, 1, none⟩ = some (.pointer (some ⟨tb, 0, none⟩)) := hp1.at 1
  have c5 : w1.cell? ⟨pb, 5, none⟩ = some (.int .u64 (s.k : Int)) := hp1.at 5
  have c10 : w1.cell? ⟨pb, 10, none⟩ = some (.bool false) := by rw [hp1.at 10, ← hmi]; rfl
  obtain ⟨Q2, HQ2, HC2⟩ := callsVar (tw_Init hs (tb := tb) (w := w1) (G := G) (Fs := Fs) (twd := 8) (fg := 26) (HK.out.2.1.stable hu1 fun k hk e => by
      subst e
      rcases hk with hk | hk
      · exact HK.out.2.2.2.2.2.1 hk
      · exact HK.out.2.2.2.2.2.2.2.2.1 hk) (hs.stable HD.out.2.1 hu1 fun k hk e => HD.out.1 pb (.inl rfl) (e ▸ hk)) (HD.out.1 tb (.inr (.inr (.inr (.inl rfl))))) (fun k hk => HD.out.1 k (.inr (.inr (.inr (.inr hk))))) (by decide))
  have HP1 := Lib.hid hp1
  have HU1 := Lib.hid hu1
  clear hp1 hu1
  go_wp2_with (go_at_call 36; refine HC2.out.mono ?_)
  rintro e w2 hq
  obtain ⟨rfl, H2, hi2, hH2, _, hu2⟩ := HQ2.out e w2 hq
  clear hq
  have HR := Lib.hid (pg_ready H0.out HD.out.1 HP1.out HU1.out hi2 hH2 hu2)
  have d0 : w2.cell? ⟨pb, 0, none⟩ = some (.iface 71 (.pointer (some ⟨b, 0, none⟩))) := by have h := HR.out.cell.at 0; rw [h, hkp]; rfl
  have d1 : w2.cell? ⟨pb, 1, none⟩ = some (.pointer (some ⟨tb, 0, none⟩)) := HR.out.cell.at 1
  have hcell := HR.out.cell
  rw [hkp] at hcell
  obtain ⟨Q3, HQ3, HC3⟩ := callsVar (bw_rsQ HT (tw_neBW S tb 8 26) (pb := pb) (b := b) (g := g) (w := w2) (tv := .pointer (some ⟨tb, 0, none⟩)) (Fs := H2) (s := s.rst) hcell HR.out.buf ⟨[], [], HR.out.idle, rfl, fun c hc => (by cases hc)⟩ HR.out.np.1 HR.out.np.2.1 HR.out.np.2.2 HR.out.ne.1 HR.out.ne.2)
  clear hi2 hH2 hu2 hcell
  go_wp2_with (go_at_call 240; refine HC3.out.mono ?_)
  rintro e w3 hq
  obtain ⟨rfl, hS3, hu3⟩ := HQ3.out e w3 hq
  clear hq
  have hPW3 := PSt.pw hS3
  have hu03 : Upd (fun k => PrOwn pb b g tb G k ∨ Fs k) w w3 := HR.out.upd.trans (hu3.mono fun k hk => by
    rcases hk with h | h | h
    · exact .inl (.inl h)
    · exact .inl (.inr (.inl h))
    · exact .inl (.inr (.inr (.inl h))))
  have hF3 : ∀ k, (k = b ∨ k = g ∨ H2 k) → (PrOwn pb b g tb G k ∨ Fs k) ∨ w.heap.size ≤ k := fun k hk => by
    rcases hk with h | h | h
    · exact .inl (.inl (.inr (.inl h)))
    · exact .inl (.inl (.inr (.inr (.inl h))))
    · exact HR.out.own k h
  have HPW3 := Lib.hid hPW3
  have HU03 := Lib.hid hu03
  have HF3 := Lib.hid hF3
  clear hPW3 hu03 hF3 hS3 hu3
  have hO3 : PrOwn pb b g tb G pb := .inl rfl
  have HTO := tw_ok hs hok tb 8 26
  obtain ⟨B3, hB3⟩ : ∃ B3 : Base, B3 = ⟨w3, fun k => k = b ∨ k = g ∨ H2 k⟩ := ⟨_, rfl⟩
  have hcar : Carried w (PrOwn pb b g tb G) Fs pb B3 := by rw [hB3]; exact carried_of hO3 HU03.out HF3.out
  have hpx3 : PX (twSink S tb 8 26) pb b (.pointer (some ⟨tb, 0, none⟩)) B3 w3 [] (s.start 0) := by
    rw [hB3]
    exact HPW3.out.px (PS.start_ps hfr 0) rfl ⟨rfl, rfl⟩
  have HB3 := Lib.hid hB3
  have HPos := Lib.hid (hpos B3 w3 (s.start 0) hcar hpx3)
  have HMid := Lib.hid (fun W hW => hmid B3 W hcar hW)
  have HPX3 := Lib.hid hpx3
  clear hpx3 hcar hB3 hpos hmid
  go_wp2_with (first
    | ((with_reducible refine HPos.out.mono ?_); rintro e v4 ⟨rfl, hu4⟩; have HU4 := Lib.hid hu4; clear hu4)
    | (go_at_call 41; refine (pos_line _ _ HLc.out _).mono ?_; rintro e v5 ⟨rfl, hu5⟩
       have hPX5 := HPX3.out.quiet HTO (HU4.out.trans hu5)
       have e19 : v5.cell? ⟨pb, 19, none⟩ = some (.int .u64 0) := hPX5.c19
       have f19 := hPX5.fz 19
       have hPX6 := hPX5.setc HTO (i := 19) (val := .int .u64 ((lc / 16384 : Nat) : Int)) (s.start (lc / 16384)) (fun _ => rfl) rfl
       obtain ⟨Q5, HQ5, HC5⟩ := callsVar (HMid.out _ hPX6)
       clear hPX5 hPX6 hu5)
    | (go_at_call 43; refine HC5.out.mono ?_))
  rintro e w5 hq
  obtain ⟨⟨r5, rfl⟩, v5', hpx5⟩ := HQ5.out e w5 hq
  clear hq
  rw [HB3.out] at hpx5
  obtain ⟨h5, hr5⟩ := hpx5.pwr
  clear hpx5
  obtain ⟨s5, hs5⟩ : ∃ s5, s5 = v5'.ps h5 := ⟨_, rfl⟩
  rw [← hs5] at hr5
  have hzz := HU03.out.size
  have HU5W := Lib.hid (show ∀ k, ((k = b ∨ k = g ∨ H2 k) ∨ w3.heap.size ≤ k) → (PrOwn pb b g tb G k ∨ Fs k) ∨ w.heap.size ≤ k from fun k hk => hk.elim (HF3.out k) fun h => .inr (Nat.le_trans hzz h))
  clear hzz
  have HU04 := HU03
  obtain ⟨F5, hPW5, hF5, hu5⟩ := hr5
  have HFh := Lib.hid (pe_fh hPW5.cell)
  obtain ⟨Q6, HQ6, HC6⟩ := callsVar (pe_fc hPW5.cell)
  have HPW5 := Lib.hid hPW5
  have HU5 := Lib.hid (And.intro hF5 hu5)
  clear hPW5 hF5 hu5
  go_wp2_with (first | (go_at_call 46; refine HFh.out.mono ?_; rintro e w' ⟨rfl, rfl⟩) | (go_at_call 47; refine HC6.out.mono ?_))
  rintro e w6 hq
  obtain ⟨rfl, hp6, hu6⟩ := HQ6.out e w6 hq
  clear hq
  have e0 : w6.cell? ⟨pb, 0, none⟩ = some (.iface 71 (.pointer (some ⟨b, 0, none⟩))) := hp6.at 0
  obtain ⟨inner6, pend6, hb6, hl6⟩ := HPW5.out.buf.stable HT hu6 fun k hk e => HPW5.out.np (e ▸ hk)
  have hlen6 : inner6.length + pend6.length ≤ LIM := by
    have h1 := congrArg List.length hl6
    have h2 := HD.out.2.2
    rw [List.length_append] at h1
    omega
  obtain ⟨Q7, HQ7, HC7⟩ := callsVar (flush_any HT hb6 hlen6)
  have HP6 := Lib.hid hp6
  have HU6 := Lib.hid hu6
  have HL6 := Lib.hid hl6
  clear hp6 hu6 hb6 hlen6 hl6
  go_wp2_with (go_at_call 239; refine HC7.out.mono ?_)
  rintro e w7 hq
  obtain ⟨rfl, F7, hb7, hF7, hu7⟩ := HQ7.out e w7 hq
  clear hq
  rw [← HL6.out] at hb7
  obtain ⟨g7, cur7, Fs7, hb71, hb72, hb73, hb74, hb75, hb76, hb77, hb78, hb79, hb710, hb7F⟩ := hb7
  obtain ⟨inner7, t7, hi7, hl7, _⟩ := hb77
  have hlen7 : inner7.length + t7.length + 1 ≤ LIM := by
    have h1 := congrArg List.length hl7
    have h2 := HD.out.2.2
    rw [List.length_append] at h1
    omega
  have htb7 : Fs7 tb := by
    obtain ⟨G7, Fss, hA, hH⟩ := hi7
    exact (hH tb).2 (.inl rfl)
  obtain ⟨Q8, HQ8, HC8⟩ := callsVar (tw_Flush hs hi7 fun W hW => tw_fnd_any hs hok hW hlen7)
  have HBg := Lib.hid (And.intro hb71 (And.intro hb72 (And.intro hb73 (And.intro hb78 (And.intro hb79 (And.intro hb710 (And.intro htb7 hb7F)))))))
  have HF7 := Lib.hid (And.intro hF7 hu7)
  have HL7 := Lib.hid hl7
  clear hb71 hb72 hb73 hb74 hb75 hb76 hb78 hb79 hb710 hb7F hF7 hu7 hi7 hlen7 htb7 hl7
  go_wp2_with (go_at_call 48; refine HC8.out.mono ?_)
  rintro e w8 hq
  obtain ⟨rfl, hd8⟩ := HQ8.out e w8 hq
  clear hq
  rw [← HL7.out] at hd8
  have HD8 := Lib.hid hd8
  clear hd8
  go_wp2_with fail
  go_ret
  obtain ⟨g1, g2, g3, g4, g5, g6, g8, g9⟩ := HBg.out
  have hn6 : ¬ F5 pb := HPW5.out.np
  have hlp := heap_lt HP6.out
  have hF5w : ∀ k, F5 k → (PrOwn pb b g tb G k ∨ Fs k) ∨ w.heap.size ≤ k := fun k hk => HU5W.out k (HU5.out.1 k hk)
  have hu05 := HU04.out.trans' HU5.out.2 fun k (hk : k = pb ∨ _) => by
    rcases hk with h | h
    · exact .inl (.inl (.inl h))
    · exact HF3.out k h
  have hu06 : Upd (fun k => PrOwn pb b g tb G k ∨ Fs k) w w6 := hu05.trans (HU6.out.mono fun k hk => .inl (.inl hk))
  have hu07 : Upd (fun k => PrOwn pb b g tb G k ∨ Fs k) w w7 := hu06.trans' HF7.out.2 hF5w
  have hF7w : ∀ k, F7 k → (PrOwn pb b g tb G k ∨ Fs k) ∨ w.heap.size ≤ k := fun k hk => by
    rcases HF7.out.1 k hk with h | h
    · exact hF5w k h
    · exact .inr (Nat.le_trans hu06.size h)
  have hn7 : ¬ F7 pb := fun hk => by
    rcases HF7.out.1 pb hk with h | h
    · exact hn6 h
    · omega
  exact ⟨rfl, print_endV g9 hF7w hu07 HD8.out⟩

set_option maxRecDepth 100000 in
set_option maxHeartbeats 8000000 in
theorem pv_part_m {S : Sink} (hs : S.Law Tryz.prog 561) (hok : ∀ c, S.okb c = true) {pb b g tb : Nat} {s : PS} {w : World} {G Fs : Nat → Prop} {l : List UInt8} (h : PrIdle pb b g tb s w G) (hkp : s.kp = false) (hk0 : s.k = 0) (hmi : s.mi = true) (hsi : s.si = false) 
    (hI : S.I w Fs []) (hdF : ∀ k, PrOwn pb b g tb G k → ¬ Fs k) (hl : l.length + 1 ≤ LIM)
    (hfr : s.Fresh) {t : TypeId} {posf : FuncId} (hpt : PartTy t posf) {nb o lc : Nat} (hlc : lc < 4294967296)
    (hpos : PvPos S pb b tb (PrOwn pb b g tb G) Fs w posf #[.pointer (some ⟨nb, 0, none⟩)] o lc)
    (hmid : PvMid S pb b tb (PrOwn pb b g tb G) Fs w (s.start (lc / 16384)) 43 #[.pointer (some ⟨pb, 0, none⟩), .iface t (.pointer (some ⟨nb, 0, none⟩)), .nilIface] l) :
    Calls Tryz.prog 12 #[.pointer (some ⟨pb, 0, none⟩), .iface S.ty (.pointer (some S.ptr)), .iface t (.pointer (some ⟨nb, 0, none⟩))] w fun e w' => e = .returned .nilIface ∧ PrintV S (PrOwn pb b g tb G) Fs l w w' := by
  have h0 := h
  obtain ⟨hc, hb, ht, hl0, hd⟩ := h
  obtain ⟨Q, HQ, HC⟩ := callsVar (pe_reset hc hl0)
  have HK := Lib.hid (And.intro hb (And.intro ht (And.intro hl0 hd)))
  have HD := Lib.hid (And.intro hdF (And.intro hI hl))
  have H0 := Lib.hid h0
  have HT := tw_law hs hok tb 8 26
  have htw := fun w => asrt_same (P := Tryz.prog) Tryz.underlying73 75 (.pointer (some ⟨tb, 0, none⟩)) w
  have hta1 := hpt.a1 (some ⟨nb, 0, none⟩)
  have hta2 := hpt.a2 (some ⟨nb, 0, none⟩)
  have hta3 := hpt.a3 (some ⟨nb, 0, none⟩)
  have hta4 := hpt.a4 (some ⟨nb, 0, none⟩)
  have hta5 := hpt.a5 (some ⟨nb, 0, none⟩)
  have hpm := hpt.m ⟨nb, 0, none⟩
  have hpn := hpt.n ⟨nb, 0, none⟩
  have hpe := hpt.e
  have HLc := Lib.hid hlc
  clear hlc
  have hkI : (s.k : Int) = 0 := by omega
  have hm1 := bw_meth_rs b
  have ha1 := bw_ahead_rs b
  have hm2 := bw_meth_fl b
  have ha2 := bw_ahead_fl b
  clear hc hb ht hl0 hd hdF hI h0 hl
  go_enter Tryz.func12, Tryz.ntmps12
  go_wp2_with (go_at_call 34; refine HC.out.mono ?_)
  rintro e w1 hq
  obtain ⟨rfl, hp1, hu1⟩ := HQ.out e w1 hq
  clear hq
  have c1 : w1.cell? ⟨pb, 1, none⟩ = some (.pointer (some ⟨tb, 0, none⟩)) := hp1.at 1
  have c5 : w1.cell? ⟨pb, 5, none⟩ = some (.int .u64 (s.k : Int)) := hp1.at 5
  have c10 : w1.cell? ⟨pb, 10, none⟩ = some (.bool true) := by rw [hp1.at 10, ← hmi]; rfl
  have c11 : w1.cell? ⟨pb, 11, none⟩ = some (.bool false) := by rw [hp1.at 11, ← hsi]; rfl
  obtain ⟨Q2, HQ2, HC2⟩ := callsVar (tw_Init hs (tb := tb) (w := w1) (G := G) (Fs := Fs) (twd := 8) (fg := 26) (HK.out.2.1.stable hu1 fun k hk e => by
      subst e
      rcases hk with hk | hk
      · exact HK.out.2.2.2.2.2.1 hk
      · exact HK.out.2.2.2.2.2.2.2.2.1 hk) (hs.stable HD.out.2.1 hu1 fun k hk e => HD.out.1 pb (.inl rfl) (e ▸ hk)) (HD.out.1 tb (.inr (.inr (.inr (.inl rfl))))) (fun k hk => HD.out.1 k (.inr (.inr (.inr (.inr hk))))) (by decide))
  have HP1 := Lib.hid hp1
  have HU1 := Lib.hid hu1
  clear hp1 hu1
  go_wp2_with (go_at_call 36; refine HC2.out.mono ?_)
  rintro e w2 hq
  obtain ⟨rfl, H2, hi2, hH2, _, hu2⟩ := HQ2.out e w2 hq
  clear hq
  have HR := Lib.hid (pg_ready H0.out HD.out.1 HP1.out HU1.out hi2 hH2 hu2)
  have d0 : w2.cell? ⟨pb, 0, none⟩ = some (.iface 71 (.pointer (some ⟨b, 0, none⟩))) := by have h := HR.out.cell.at 0; rw [h, hkp]; rfl
  have d1 : w2.cell? ⟨pb, 1, none⟩ = some (.pointer (some ⟨tb, 0, none⟩)) := HR.out.cell.at 1
  have hcell := HR.out.cell
  rw [hkp] at hcell
  obtain ⟨Q3, HQ3, HC3⟩ := callsVar (bw_rsQ HT (tw_neBW S tb 8 26) (pb := pb) (b := b) (g := g) (w := w2) (tv := .pointer (some ⟨tb, 0, none⟩)) (Fs := H2) (s := s.rst) hcell HR.out.buf ⟨[], [], HR.out.idle, rfl, fun c hc => (by cases hc)⟩ HR.out.np.1 HR.out.np.2.1 HR.out.np.2.2 HR.out.ne.1 HR.out.ne.2)
  clear hi2 hH2 hu2 hcell
  go_wp2_with (go_at_call 240; refine HC3.out.mono ?_)
  rintro e w3 hq
  obtain ⟨rfl, hS3, hu3⟩ := HQ3.out e w3 hq
  clear hq
  have hPW3 := PSt.pw hS3
  have hu03 : Upd (fun k => PrOwn pb b g tb G k ∨ Fs k) w w3 := HR.out.upd.trans (hu3.mono fun k hk => by
    rcases hk with h | h | h
    · exact .inl (.inl h)
    · exact .inl (.inr (.inl h))
    · exact .inl (.inr (.inr (.inl h))))
  have hF3 : ∀ k, (k = b ∨ k = g ∨ H2 k) → (PrOwn pb b g tb G k ∨ Fs k) ∨ w.heap.size ≤ k := fun k hk => by
    rcases hk with h | h | h
    · exact .inl (.inl (.inr (.inl h)))
    · exact .inl (.inl (.inr (.inr (.inl h))))
    · exact HR.out.own k h
  have HPW3 := Lib.hid hPW3
  have HU03 := Lib.hid hu03
  have HF3 := Lib.hid hF3
  clear hPW3 hu03 hF3 hS3 hu3
  have hO3 : PrOwn pb b g tb G pb := .inl rfl
  have HTO := tw_ok hs hok tb 8 26
  obtain ⟨B3, hB3⟩ : ∃ B3 : Base, B3 = ⟨w3, fun k => k = b ∨ k = g ∨ H2 k⟩ := ⟨_, rfl⟩
  have hcar : Carried w (PrOwn pb b g tb G) Fs pb B3 := by rw [hB3]; exact carried_of hO3 HU03.out HF3.out
  have hpx3 : PX (twSink S tb 8 26) pb b (.pointer (some ⟨tb, 0, none⟩)) B3 w3 [] (s.start 0) := by
    rw [hB3]
    exact HPW3.out.px (PS.start_ps hfr 0) rfl ⟨rfl, rfl⟩
  have HB3 := Lib.hid hB3
  have HPos := Lib.hid (hpos B3 w3 (s.start 0) hcar hpx3)
  have HMid := Lib.hid (fun W hW => hmid B3 W hcar hW)
  have HPX3 := Lib.hid hpx3
  clear hpx3 hcar hB3 hpos hmid
  go_wp2_with (first
    | ((with_reducible refine HPos.out.mono ?_); rintro e v4 ⟨rfl, hu4⟩; have HU4 := Lib.hid hu4; clear hu4)
    | (go_at_call 41; refine (pos_line _ _ HLc.out _).mono ?_; rintro e v5 ⟨rfl, hu5⟩
       have hPX5 := HPX3.out.quiet HTO (HU4.out.trans hu5)
       have e19 : v5.cell? ⟨pb, 19, none⟩ = some (.int .u64 0) := hPX5.c19
       have f19 := hPX5.fz 19
       have hPX6 := hPX5.setc HTO (i := 19) (val := .int .u64 ((lc / 16384 : Nat) : Int)) (s.start (lc / 16384)) (fun _ => rfl) rfl
       obtain ⟨Q5, HQ5, HC5⟩ := callsVar (HMid.out _ hPX6)
       clear hPX5 hPX6 hu5)
    | (go_at_call 43; refine HC5.out.mono ?_))
  rintro e w5 hq
  obtain ⟨⟨r5, rfl⟩, v5', hpx5⟩ := HQ5.out e w5 hq
  clear hq
  rw [HB3.out] at hpx5
  obtain ⟨h5, hr5⟩ := hpx5.pwr
  clear hpx5
  obtain ⟨s5, hs5⟩ : ∃ s5, s5 = v5'.ps h5 := ⟨_, rfl⟩
  rw [← hs5] at hr5
  have hzz := HU03.out.size
  have HU5W := Lib.hid (show ∀ k, ((k = b ∨ k = g ∨ H2 k) ∨ w3.heap.size ≤ k) → (PrOwn pb b g tb G k ∨ Fs k) ∨ w.heap.size ≤ k from fun k hk => hk.elim (HF3.out k) fun h => .inr (Nat.le_trans hzz h))
  clear hzz
  have HU04 := HU03
  obtain ⟨F5, hPW5, hF5, hu5⟩ := hr5
  have HFh := Lib.hid (pe_fh hPW5.cell)
  obtain ⟨Q6, HQ6, HC6⟩ := callsVar (pe_fc hPW5.cell)
  have HPW5 := Lib.hid hPW5
  have HU5 := Lib.hid (And.intro hF5 hu5)
  clear hPW5 hF5 hu5
  go_wp2_with (first | (go_at_call 46; refine HFh.out.mono ?_; rintro e w' ⟨rfl, rfl⟩) | (go_at_call 47; refine HC6.out.mono ?_))
  rintro e w6 hq
  obtain ⟨rfl, hp6, hu6⟩ := HQ6.out e w6 hq
  clear hq
  have e0 : w6.cell? ⟨pb, 0, none⟩ = some (.iface 71 (.pointer (some ⟨b, 0, none⟩))) := hp6.at 0
  obtain ⟨inner6, pend6, hb6, hl6⟩ := HPW5.out.buf.stable HT hu6 fun k hk e => HPW5.out.np (e ▸ hk)
  have hlen6 : inner6.length + pend6.length ≤ LIM := by
    have h1 := congrArg List.length hl6
    have h2 := HD.out.2.2
    rw [List.length_append] at h1
    omega
  obtain ⟨Q7, HQ7, HC7⟩ := callsVar (flush_any HT hb6 hlen6)
  have HP6 := Lib.hid hp6
  have HU6 := Lib.hid hu6
  have HL6 := Lib.hid hl6
  clear hp6 hu6 hb6 hlen6 hl6
  go_wp2_with (go_at_call 239; refine HC7.out.mono ?_)
  rintro e w7 hq
  obtain ⟨rfl, F7, hb7, hF7, hu7⟩ := HQ7.out e w7 hq
  clear hq
  rw [← HL6.out] at hb7
  obtain ⟨g7, cur7, Fs7, hb71, hb72, hb73, hb74, hb75, hb76, hb77, hb78, hb79, hb710, hb7F⟩ := hb7
  obtain ⟨inner7, t7, hi7, hl7, _⟩ := hb77
  have hlen7 : inner7.length + t7.length + 1 ≤ LIM := by
    have h1 := congrArg List.length hl7
    have h2 := HD.out.2.2
    rw [List.length_append] at h1
    omega
  have htb7 : Fs7 tb := by
    obtain ⟨G7, Fss, hA, hH⟩ := hi7
    exact (hH tb).2 (.inl rfl)
  obtain ⟨Q8, HQ8, HC8⟩ := callsVar (tw_Flush hs hi7 fun W hW => tw_fnd_any hs hok hW hlen7)
  have HBg := Lib.hid (And.intro hb71 (And.intro hb72 (And.intro hb73 (And.intro hb78 (And.intro hb79 (And.intro hb710 (And.intro htb7 hb7F)))))))
  have HF7 := Lib.hid (And.intro hF7 hu7)
  have HL7 := Lib.hid hl7
  clear hb71 hb72 hb73 hb74 hb75 hb76 hb78 hb79 hb710 hb7F hF7 hu7 hi7 hlen7 htb7 hl7
  go_wp2_with (go_at_call 48; refine HC8.out.mono ?_)
  rintro e w8 hq
  obtain ⟨rfl, hd8⟩ := HQ8.out e w8 hq
  clear hq
  rw [← HL7.out] at hd8
  have HD8 := Lib.hid hd8
  clear hd8
  go_wp2_with fail
  go_ret
  obtain ⟨g1, g2, g3, g4, g5, g6, g8, g9⟩ := HBg.out
  have hn6 : ¬ F5 pb := HPW5.out.np
  have hlp := heap_lt HP6.out
  have hF5w : ∀ k, F5 k → (PrOwn pb b g tb G k ∨ Fs k) ∨ w.heap.size ≤ k := fun k hk => HU5W.out k (HU5.out.1 k hk)
  have hu05 := HU04.out.trans' HU5.out.2 fun k (hk : k = pb ∨ _) => by
    rcases hk with h | h
    · exact .inl (.inl (.inl h))
    · exact HF3.out k h
  have hu06 : Upd (fun k => PrOwn pb b g tb G k ∨ Fs k) w w6 := hu05.trans (HU6.out.mono fun k hk => .inl (.inl hk))
  have hu07 : Upd (fun k => PrOwn pb b g tb G k ∨ Fs k) w w7 := hu06.trans' HF7.out.2 hF5w
  have hF7w : ∀ k, F7 k → (PrOwn pb b g tb G k ∨ Fs k) ∨ w.heap.size ≤ k := fun k hk => by
    rcases HF7.out.1 k hk with h | h
    · exact hF5w k h
    · exact .inr (Nat.le_trans hu06.size h)
  have hn7 : ¬ F7 pb := fun hk => by
    rcases HF7.out.1 pb hk with h | h
    · exact hn6 h
    · omega
  exact ⟨rfl, print_endV g9 hF7w hu07 HD8.out⟩
end Go.Proofs.YtmdkpihlhdjjaaaGreatFmt
