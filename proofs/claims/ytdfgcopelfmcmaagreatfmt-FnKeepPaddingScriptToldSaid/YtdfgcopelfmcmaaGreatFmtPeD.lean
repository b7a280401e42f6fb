/-
  The Printer's newline where nothing is pending.
-/
import Derived.Test.YtdfgcopelfmcmaaGreatFmtPeC
namespace Go.Proofs.YtdfgcopelfmcmaaGreatFmt
open Go.RowKit

def wvOf (kp : Bool) (pb b : Nat) : Value := if kp then .iface 67 (.pointer (some ⟨pb, 2, none⟩)) else .iface 60 (.pointer (some ⟨b, 0, none⟩))
def cvOf (kp : Bool) (b : Nat) : Value := if kp then .pointer (some ⟨b, 0, none⟩) else .pointer none

/-- What no print changes. -/
def PS.Same (s s' : PS) : Prop := s'.k = s.k ∧ s'.bnl = s.bnl ∧ s'.swt = s.swt ∧ s'.spr = s.spr ∧ s'.kp = s.kp ∧ s'.mi = s.mi ∧ s'.si = s.si ∧ s'.fnl = s.fnl ∧ s'.lic = s.lic ∧ s'.lin ≤ s.lin
theorem PS.Same.refl (s : PS) : s.Same s := ⟨rfl, rfl, rfl, rfl, rfl, rfl, rfl, rfl, rfl, Nat.le_refl _⟩
theorem PS.Same.trans {s t u : PS} (h : s.Same t) (k : t.Same u) : s.Same u :=
  ⟨k.1.trans h.1, k.2.1.trans h.2.1, k.2.2.1.trans h.2.2.1, k.2.2.2.1.trans h.2.2.2.1, k.2.2.2.2.1.trans h.2.2.2.2.1, k.2.2.2.2.2.1.trans h.2.2.2.2.2.1, k.2.2.2.2.2.2.1.trans h.2.2.2.2.2.2.1, k.2.2.2.2.2.2.2.1.trans h.2.2.2.2.2.2.2.1, k.2.2.2.2.2.2.2.2.1.trans h.2.2.2.2.2.2.2.2.1, Nat.le_trans k.2.2.2.2.2.2.2.2.2 h.2.2.2.2.2.2.2.2.2⟩

/-- What a call leaves. -/
def PDone (T : Sink) (pb b g : Nat) (tv : Value) (kp : Bool) (w : World) (Fs : Nat → Prop) (inner pend : List UInt8) (s : PS) (w' : World) : Prop :=
  ∃ s', PSt T pb b g (wvOf kp pb b) tv (cvOf kp b) w' Fs inner pend s' ∧ s.Same s' ∧ Upd (fun k => k = pb ∨ k = b ∨ k = g) w w'

set_option maxRecDepth 100000 in
theorem line0 (w : World) : Calls Tryz.prog 52 #[.agg #[.int .u32 0, .int .u32 0]] w fun e w' => e = .returned (.int .u64 0) ∧ Upd (fun _ => False) w w' := by
  go_enter Tryz.func52, Tryz.ntmps52
  go_wp2
  go_ret
  exact ⟨rfl, (Upd.refl _ w).alloc _⟩

set_option maxRecDepth 100000 in
theorem pe_advance0 {pb : Nat} {w : World} {wv tv cv : Value} {s : PS} (h : PCell pb w wv tv cv s) :
    Calls Tryz.prog 71 #[.pointer (some ⟨pb, 0, none⟩), .int .u64 0] w fun e w' => e = .returned (.tuple #[]) ∧ PCell pb w' wv tv cv s ∧ Upd (fun k => k = pb) w w' := by
  have c19 : w.cell? ⟨pb, 19, none⟩ = some (.int .u64 (s.ln : Int)) := h.at 19
  have f19 := h.fr 19
  have hmax : max (s.ln : Int) 0 = (s.ln : Int) := by omega
  have HA := Lib.hid h
  clear h
  go_enter Tryz.func71, Tryz.ntmps71
  go_wp2
  go_end0
  exact ⟨rfl, HA.out.set rfl, (Upd.refl (fun k => k = pb) w).setCell (p := ⟨pb, 19, none⟩) (.inl rfl) _⟩

set_option maxRecDepth 100000 in
set_option maxHeartbeats 4000000 in
theorem pe_newline_f {T : Sink} (hs : T.Law Tryz.prog 542) {pb b g : Nat} {w : World} {tv : Value} {Fs : Nat → Prop} {s : PS} (h : PSt T pb b g (wvOf false pb b) tv (cvOf false b) w Fs [] [] s) (hk : T.okb 10 = true) :
    Calls Tryz.prog 49 #[.pointer (some ⟨pb, 0, none⟩), .agg #[.int .u32 0, .int .u32 0]] w fun e w' => e = .returned (.tuple #[]) ∧ PDone T pb b g tv false w Fs [] [10] s w' := by
  have hu0 : Upd (fun _ => False) w (w.alloc (.cells #[.int .u32 0, .int .u32 0] 90)) := (Upd.refl _ w).alloc _
  have hX : (w.alloc (.cells #[.int .u32 0, .int .u32 0] 90)).heap[w.heap.size]? = some (.cells #[.int .u32 0, .int .u32 0] 90 (0, 0)) := heap_alloc_new _ _
  obtain ⟨hp, hB, hFp, hpb, hpg⟩ := h
  have hlb : b < w.heap.size := by obtain ⟨_, h, _⟩ := hB; exact heap_lt h
  have hlg : g < w.heap.size := by obtain ⟨_, _, h, _⟩ := hB; exact heap_lt h
  have hlp : pb < w.heap.size := heap_lt hp
  have hp0 := hp.keep hu0 fun h => h
  have hB0 := hB.stable hs hu0 (fun h => h) (fun h => h) fun _ _ h => h
  have HFh := Lib.hid (pe_fh hp0)
  obtain ⟨Q1, HQ1, HC1⟩ := callsVar (pe_fc hp0)
  have HB0 := Lib.hid hB0
  have HX := Lib.hid hX
  have HU0 := Lib.hid hu0
  have HN := Lib.hid (And.intro hFp (And.intro hpb (And.intro hpg (And.intro hlb (And.intro hlg hlp)))))
  have HL := Lib.hid line0
  clear hp hB hFp hpb hpg hp0 hB0 hX hu0 hlb hlg hlp
  have hm := bw_meth_wb b
  have ha := bw_ahead_wb b
  go_enter Tryz.func49, Tryz.ntmps49
  go_wp2_with (first | (go_at_call 57; refine HFh.out.mono ?_; rintro e w1 ⟨rfl, rfl⟩) | (go_at_call 58; refine HC1.out.mono ?_))
  rintro e w1 hq
  obtain ⟨rfl, hp1, hu1⟩ := HQ1.out e w1 hq
  clear hq
  have hS1 : PSt T pb b g (wvOf false pb b) tv (cvOf false b) w1 Fs [] [] s.noCom := ⟨hp1, HB0.out.stable hs hu1 (fun e => HN.out.2.1 e.symm) (fun e => HN.out.2.2.1 e.symm) fun k hk e => HN.out.1 (e ▸ hk), HN.out.1, HN.out.2.1, HN.out.2.2.1⟩
  have c0 : w1.cell? ⟨pb, 0, none⟩ = some (.iface 60 (.pointer (some ⟨b, 0, none⟩))) := hp1.at 0
  have HX1 := Lib.hid (hu1.heap HX.out (by have := HN.out.2.2.2.2.2; omega))
  have HU1 := Lib.hid ((HU0.out.mono (G := fun k => k = pb) fun _ h => h.elim).trans hu1)
  obtain ⟨Q2, HQ2, HC2⟩ := callsVar (bw_wbP hs hS1 hk)
  clear hp1 hu1 hS1
  go_wp2_with (go_at_call 243; refine HC2.out.mono ?_)
  rintro e w2 hq
  obtain ⟨rfl, cc, cl, ⟨hp2, hB2, _⟩, hu2⟩ := HQ2.out e w2 hq
  clear hq
  have c13 : w2.cell? ⟨pb, 13, none⟩ = some (.int .u8 (s.ws : Int)) := hp2.at 13
  have c14 : w2.cell? ⟨pb, 14, none⟩ = some (.bool s.wn) := hp2.at 14
  have c15 : w2.cell? ⟨pb, 15, none⟩ = some (.bool s.mn) := hp2.at 15
  have f13 := hp2.fr 13
  have f14 := hp2.fr 14
  have f15 := hp2.fr 15
  have HX2 := Lib.hid (hu2.heap HX1.out (by have := HN.out.2.2.2; rintro (h | h | h) <;> omega))
  have x0 : w2.cell? ⟨w.heap.size, 0, none⟩ = some (.int .u32 0) := cell_at HX2.out 0
  have x1 : w2.cell? ⟨w.heap.size, 1, none⟩ = some (.int .u32 0) := cell_at HX2.out 1
  have hne : ¬ pb = w.heap.size := by have := HN.out.2.2.2.2.2; omega
  have hne' : ¬ w.heap.size = pb := fun e => hne e.symm
  have hu3 : Upd (fun k => k = pb) w2 (((w2.setCell ⟨pb, 13, none⟩ (.int .u8 2)).setCell ⟨pb, 14, none⟩ (.bool false)).setCell ⟨pb, 15, none⟩ (.bool false)) :=
    Upd.setCell (F := fun k => k = pb) (Upd.setCell (F := fun k => k = pb) (Upd.setCell (F := fun k => k = pb) (Upd.refl _ w2) (by exact .inl rfl) _) (by exact .inl rfl) _) (by exact .inl rfl) _
  have hp3 : PCell pb (((w2.setCell ⟨pb, 13, none⟩ (.int .u8 2)).setCell ⟨pb, 14, none⟩ (.bool false)).setCell ⟨pb, 15, none⟩ (.bool false)) (wvOf false pb b) tv (cvOf false b) { s.noCom with cc := cc, cl := cl, ws := 2, wn := false, mn := false } :=
    ((hp2.set (s' := { s.noCom with cc := cc, cl := cl, ws := 2 }) rfl).set (s' := { s.noCom with cc := cc, cl := cl, ws := 2, wn := false }) rfl).set rfl
  have HAdv := Lib.hid (fun (W : World) (hW : Upd (fun _ => False) (((w2.setCell ⟨pb, 13, none⟩ (.int .u8 2)).setCell ⟨pb, 14, none⟩ (.bool false)).setCell ⟨pb, 15, none⟩ (.bool false)) W) => pe_advance0 (hp3.keep hW fun h => h))
  have HB2 := Lib.hid hB2
  have HU2 := Lib.hid hu2
  have HU3 := Lib.hid hu3
  clear hp2 hB2 hu2 hu3 hp3
  go_wp2_with (first
    | (go_at_call 52; refine (HL.out _).mono ?_; rintro e w4 ⟨rfl, hu4⟩; have HU4 := Lib.hid hu4; clear hu4)
    | (go_at_call 71; refine (HAdv.out _ HU4.out).mono ?_; rintro e w5 ⟨rfl, hp5, hu5⟩; have HP5 := Lib.hid hp5; have HU5 := Lib.hid hu5; clear hp5 hu5))
  go_end0
  have hu25 : Upd (fun k => k = pb) w2 w5 := (HU3.out.trans (HU4.out.mono fun _ h => h.elim)).trans HU5.out
  refine ⟨rfl, _, ⟨HP5.out, HB2.out.stable hs hu25 (fun e => HN.out.2.1 e.symm) (fun e => HN.out.2.2.1 e.symm) fun k hk e => HN.out.1 (e ▸ hk), HN.out.1, HN.out.2.1, HN.out.2.2.1⟩, ⟨rfl, rfl, rfl, rfl, rfl, rfl, rfl, rfl, rfl, Nat.le_refl _⟩, ?_⟩
  exact ((HU1.out.mono fun k hk => .inl hk).trans HU2.out).trans (hu25.mono fun k hk => .inl hk)

set_option maxRecDepth 100000 in
set_option maxHeartbeats 4000000 in
theorem pe_newline_t {T : Sink} (hs : T.Law Tryz.prog 542) {pb b g : Nat} {w : World} {tv : Value} {Fs : Nat → Prop} {s : PS} (h : PSt T pb b g (wvOf true pb b) tv (cvOf true b) w Fs [] [] s) (hk : T.okb 10 = true) :
    Calls Tryz.prog 49 #[.pointer (some ⟨pb, 0, none⟩), .agg #[.int .u32 0, .int .u32 0]] w fun e w' => e = .returned (.tuple #[]) ∧ PDone T pb b g tv true w Fs [] [10] s w' := by
  have hu0 : Upd (fun _ => False) w (w.alloc (.cells #[.int .u32 0, .int .u32 0] 90)) := (Upd.refl _ w).alloc _
  have hX : (w.alloc (.cells #[.int .u32 0, .int .u32 0] 90)).heap[w.heap.size]? = some (.cells #[.int .u32 0, .int .u32 0] 90 (0, 0)) := heap_alloc_new _ _
  obtain ⟨hp, hB, hFp, hpb, hpg⟩ := h
  have hlb : b < w.heap.size := by obtain ⟨_, h, _⟩ := hB; exact heap_lt h
  have hlg : g < w.heap.size := by obtain ⟨_, _, h, _⟩ := hB; exact heap_lt h
  have hlp : pb < w.heap.size := heap_lt hp
  have hp0 := hp.keep hu0 fun h => h
  have hB0 := hB.stable hs hu0 (fun h => h) (fun h => h) fun _ _ h => h
  have HFh := Lib.hid (pe_fh hp0)
  obtain ⟨Q1, HQ1, HC1⟩ := callsVar (pe_fc hp0)
  have HB0 := Lib.hid hB0
  have HX := Lib.hid hX
  have HU0 := Lib.hid hu0
  have HN := Lib.hid (And.intro hFp (And.intro hpb (And.intro hpg (And.intro hlb (And.intro hlg hlp)))))
  have HL := Lib.hid line0
  clear hp hB hFp hpb hpg hp0 hB0 hX hu0 hlb hlg hlp
  have hm := cc_meth_wb pb
  have ha := cc_ahead_wb pb
  go_enter Tryz.func49, Tryz.ntmps49
  go_wp2_with (first | (go_at_call 57; refine HFh.out.mono ?_; rintro e w1 ⟨rfl, rfl⟩) | (go_at_call 58; refine HC1.out.mono ?_))
  rintro e w1 hq
  obtain ⟨rfl, hp1, hu1⟩ := HQ1.out e w1 hq
  clear hq
  have hS1 : PSt T pb b g (wvOf true pb b) tv (cvOf true b) w1 Fs [] [] s.noCom := ⟨hp1, HB0.out.stable hs hu1 (fun e => HN.out.2.1 e.symm) (fun e => HN.out.2.2.1 e.symm) fun k hk e => HN.out.1 (e ▸ hk), HN.out.1, HN.out.2.1, HN.out.2.2.1⟩
  have c0 : w1.cell? ⟨pb, 0, none⟩ = some (.iface 67 (.pointer (some ⟨pb, 2, none⟩))) := hp1.at 0
  have HX1 := Lib.hid (hu1.heap HX.out (by have := HN.out.2.2.2.2.2; omega))
  have HU1 := Lib.hid ((HU0.out.mono (G := fun k => k = pb) fun _ h => h.elim).trans hu1)
  obtain ⟨Q2, HQ2, HC2⟩ := callsVar (cc_wb0 hs hS1 hk)
  clear hp1 hu1 hS1
  go_wp2_with (go_at_call 248; refine HC2.out.mono ?_)
  rintro e w2 hq
  obtain ⟨rfl, cc, cl, ⟨hp2, hB2, _⟩, hu2⟩ := HQ2.out e w2 hq
  clear hq
  have c13 : w2.cell? ⟨pb, 13, none⟩ = some (.int .u8 (s.ws : Int)) := hp2.at 13
  have c14 : w2.cell? ⟨pb, 14, none⟩ = some (.bool s.wn) := hp2.at 14
  have c15 : w2.cell? ⟨pb, 15, none⟩ = some (.bool s.mn) := hp2.at 15
  have f13 := hp2.fr 13
  have f14 := hp2.fr 14
  have f15 := hp2.fr 15
  have HX2 := Lib.hid (hu2.heap HX1.out (by have := HN.out.2.2.2; rintro (h | h | h) <;> omega))
  have x0 : w2.cell? ⟨w.heap.size, 0, none⟩ = some (.int .u32 0) := cell_at HX2.out 0
  have x1 : w2.cell? ⟨w.heap.size, 1, none⟩ = some (.int .u32 0) := cell_at HX2.out 1
  have hne : ¬ pb = w.heap.size := by have := HN.out.2.2.2.2.2; omega
  have hne' : ¬ w.heap.size = pb := fun e => hne e.symm
  have hu3 : Upd (fun k => k = pb) w2 (((w2.setCell ⟨pb, 13, none⟩ (.int .u8 2)).setCell ⟨pb, 14, none⟩ (.bool false)).setCell ⟨pb, 15, none⟩ (.bool false)) :=
    Upd.setCell (F := fun k => k = pb) (Upd.setCell (F := fun k => k = pb) (Upd.setCell (F := fun k => k = pb) (Upd.refl _ w2) (by exact .inl rfl) _) (by exact .inl rfl) _) (by exact .inl rfl) _
  have hp3 : PCell pb (((w2.setCell ⟨pb, 13, none⟩ (.int .u8 2)).setCell ⟨pb, 14, none⟩ (.bool false)).setCell ⟨pb, 15, none⟩ (.bool false)) (wvOf true pb b) tv (cvOf true b) { s.noCom with cc := cc, cl := cl, ws := 2, wn := false, mn := false } :=
    ((hp2.set (s' := { s.noCom with cc := cc, cl := cl, ws := 2 }) rfl).set (s' := { s.noCom with cc := cc, cl := cl, ws := 2, wn := false }) rfl).set rfl
  have HAdv := Lib.hid (fun (W : World) (hW : Upd (fun _ => False) (((w2.setCell ⟨pb, 13, none⟩ (.int .u8 2)).setCell ⟨pb, 14, none⟩ (.bool false)).setCell ⟨pb, 15, none⟩ (.bool false)) W) => pe_advance0 (hp3.keep hW fun h => h))
  have HB2 := Lib.hid hB2
  have HU2 := Lib.hid hu2
  have HU3 := Lib.hid hu3
  clear hp2 hB2 hu2 hu3 hp3
  go_wp2_with (first
    | (go_at_call 52; refine (HL.out _).mono ?_; rintro e w4 ⟨rfl, hu4⟩; have HU4 := Lib.hid hu4; clear hu4)
    | (go_at_call 71; refine (HAdv.out _ HU4.out).mono ?_; rintro e w5 ⟨rfl, hp5, hu5⟩; have HP5 := Lib.hid hp5; have HU5 := Lib.hid hu5; clear hp5 hu5))
  go_end0
  have hu25 : Upd (fun k => k = pb) w2 w5 := (HU3.out.trans (HU4.out.mono fun _ h => h.elim)).trans HU5.out
  refine ⟨rfl, _, ⟨HP5.out, HB2.out.stable hs hu25 (fun e => HN.out.2.1 e.symm) (fun e => HN.out.2.2.1 e.symm) fun k hk e => HN.out.1 (e ▸ hk), HN.out.1, HN.out.2.1, HN.out.2.2.1⟩, ⟨rfl, rfl, rfl, rfl, rfl, rfl, rfl, rfl, rfl, Nat.le_refl _⟩, ?_⟩
  exact ((HU1.out.mono fun k hk => .inl hk).trans HU2.out).trans (hu25.mono fun k hk => .inl hk)

theorem pe_newline {T : Sink} (hs : T.Law Tryz.prog 542) {pb b g : Nat} {w : World} {tv : Value} {kp : Bool} {Fs : Nat → Prop} {s : PS} (h : PSt T pb b g (wvOf kp pb b) tv (cvOf kp b) w Fs [] [] s) (hk : T.okb 10 = true) :
    Calls Tryz.prog 49 #[.pointer (some ⟨pb, 0, none⟩), .agg #[.int .u32 0, .int .u32 0]] w fun e w' => e = .returned (.tuple #[]) ∧ PDone T pb b g tv kp w Fs [] [10] s w' := by
  cases kp
  · exact pe_newline_f hs h hk
  · exact pe_newline_t hs h hk
end Go.Proofs.YtdfgcopelfmcmaaGreatFmt
