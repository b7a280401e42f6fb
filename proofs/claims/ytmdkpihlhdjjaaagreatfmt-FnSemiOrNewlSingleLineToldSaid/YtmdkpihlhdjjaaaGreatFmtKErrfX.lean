/-
  fmt.Errorf of a plain text, with no operand.
  The two kinds of writer that a Printer has: what Reset and WriteByte of a line feed make of it; newline.
  The Printer's newline where nothing is pending.
  Print of an empty *File.
  Print of an empty *File: what is known where the buffer and the tabwriter are ready.
  A Printer between two prints: small laws; Print refused.
  The options of a Printer, as closures; NewPrinter.
-/
import Derived.Test.YtmdkpihlhdjjaaaGreatFmtKMaX
import Derived.Test.YtmdkpihlhdjjaaaGreatFmtProg
import Derived.Stop.CallBack
import Derived.Stop.IfaceNil
import Derived.Lib.Hide
import Derived.StillTailTactics
import Derived.Test.YtmdkpihlhdjjaaaGreatFmtKPeAX
namespace Go.Proofs.YtmdkpihlhdjjaaaGreatFmt
open Go.RowKit
open Go.Extern.Stop Go.Stop Go.Extern

theorem errorf_guard (name : String) (w : World) : (FmtStop.guard name).run Tryz.prog w = .ok () w := by kernel_rfl

theorem errorf_none (s : ByteArray) (h : s.data.contains 37 = false) (w : World) : (callFunc 60 #[.string s, .slice none 0 0]).run Tryz.prog w = .ok (.value .nilIface) w := by
  rw [run_callFunc_next Tryz.func60 (e := FmtCalls.errorf #[9, 137] #[35]) (by kernel_rfl) (by kernel_rfl) (by kernel_rfl)]
  delta FmtCalls.errorf
  refine (Sem.run_bind Tryz.prog w (FmtStop.guard "fmt.errorf") _).trans ?_
  rw [errorf_guard]
  refine (Sem.run_bind Tryz.prog w (FmtDoors.count (.slice none 0 0)) _).trans ?_
  show Sem.run Tryz.prog (if (((0 : Nat) == 0 && !s.data.contains 37) = true) then _ else _) w = _
  rw [if_pos (by rw [h]; rfl)]
  rfl

set_option maxRecDepth 100000 in
theorem errors_New (s : ByteArray) (w : World) : Calls Tryz.prog 61 #[.string s] w fun e w' => (∃ t v, e = .returned (.iface t v)) ∧ Upd (fun _ => False) w w' := by
  go_enter Tryz.func61, Tryz.ntmps61
  go_wp2
  go_ret
  exact ⟨⟨_, _, rfl⟩, (Upd.refl _ w).alloc _⟩

set_option maxRecDepth 100000 in
theorem fmt_Errorf (s : ByteArray) (h : s.data.contains 37 = false) (w : World) : Calls Tryz.prog 35 #[.string s, .slice none 0 0] w fun e w' => (∃ t v, e = .returned (.iface t v)) ∧ Upd (fun _ => False) w w' := by
  have hc := errorf_none s h
  go_enter Tryz.func35, Tryz.ntmps35
  go_wp2_with (go_at_call 61; refine (errors_New s w).mono ?_)
  rintro e w1 ⟨⟨t, v, rfl⟩, hu⟩
  have HU := Lib.hid hu
  clear hu
  go_wp2
  go_ret
  exact ⟨⟨t, v, rfl⟩, HU.out⟩
end Go.Proofs.YtmdkpihlhdjjaaaGreatFmt

namespace Go.Proofs.YtmdkpihlhdjjaaaGreatFmt
open Go.RowKit

/-- The Printer with its bufio.Writer (over the sink T) apart from it. -/
def PSt (T : Sink) (pb b g : Nat) (wv tv cv : Value) (w : World) (Fs : Nat → Prop) (inner pend : List UInt8) (s : PS) : Prop :=
  PCell pb w wv tv cv s ∧ BufPg T b g w Fs inner pend ∧ ¬ Fs pb ∧ pb ≠ b ∧ pb ≠ g

/-- What a call leaves of it: the column counter may have counted. -/
def PPost (T : Sink) (pb b g : Nat) (wv tv cv : Value) (w : World) (Fs : Nat → Prop) (inner pend : List UInt8) (s : PS) (w' : World) : Prop :=
  ∃ cc cl, PSt T pb b g wv tv cv w' Fs inner pend { s with cc := cc, cl := cl } ∧ Upd (fun k => k = pb ∨ k = b ∨ k = g) w w'

theorem BufPg.stable {P : Program} {fuel : Nat} {T : Sink} (hs : T.Law P fuel) {b g : Nat} {w w' : World} {F Fs : Nat → Prop} {inner pend : List UInt8} (h : BufPg T b g w Fs inner pend) (hu : Upd F w w') (hb : ¬ F b) (hg : ¬ F g) (hd : ∀ k, Fs k → ¬ F k) : BufPg T b g w' Fs inner pend := by
  obtain ⟨cur, h1, h2, h3, h4, h5, h6, h7, h8⟩ := h
  exact ⟨cur, hu.heap h1 hb, hu.heap h2 hg, h3, h4, h5, h6, hs.stable h7 hu hd, h8⟩

theorem BufPg.bufP {T : Sink} {b g : Nat} {w : World} {Fs : Nat → Prop} {inner pend : List UInt8} (h : BufPg T b g w Fs inner pend) : BufP T b w (fun k => k = b ∨ k = g ∨ Fs k) inner pend := by
  obtain ⟨cur, h1, h2, h3, h4, h5, h6, h7, h8, h9, h10⟩ := h
  exact ⟨g, cur, Fs, h1, h2, h3, h4, h5, h6, h7, h8, h9, h10, fun k => Iff.rfl⟩

theorem BufPg.raw {T : Sink} {b g : Nat} {w : World} {Fs : Nat → Prop} {inner pend : List UInt8} (h : BufPg T b g w Fs inner pend) : BufRaw b g w := by
  obtain ⟨cur, h1, h2, h3, h4, h5, h6, h7, h8, h9, h10⟩ := h
  exact ⟨_, _, _, cur, h1, h2, h3, h8⟩

set_option maxRecDepth 100000 in
set_option maxHeartbeats 1000000 in
/-- WriteByte into an empty buffer. -/
theorem bw_wb0 {T : Sink} (hs : T.Law Tryz.prog 561) {b g : Nat} {w : World} {Fs : Nat → Prop} (h : BufPg T b g w Fs [] []) (hk : T.okb 10 = true) :
    Calls Tryz.prog 242 #[.pointer (some ⟨b, 0, none⟩), .int .u8 10] w fun e w' => e = .returned .nilIface ∧ BufPg T b g w' Fs [] [10] ∧ Upd (fun k => k = b ∨ k = g) w w' := by
  obtain ⟨cur, hb, hg, hsz, hn, htk, hok, hI, hbg, hFb, hFg⟩ := h
  have hc0 : w.cell? ⟨b, 0, none⟩ = some .nilIface := cell_at hb 0
  have hc1 : w.cell? ⟨b, 1, none⟩ = some (.slice (some ⟨g, 0, none⟩) 4096 4096) := cell_at hb 1
  have hc2 : w.cell? ⟨b, 2, none⟩ = some (.int .i64 0) := cell_at hb 2
  have hfb : w.frozen? ⟨b, 2, none⟩ = false := frozen_at hb 2
  have hfg : w.frozen? ⟨g, 0, none⟩ = false := frozen_at hg _
  have hcg : w.cell? ⟨g, 0, none⟩ = some (cur[0]'(by omega)) := by rw [cell_at hg, Array.getElem?_eq_getElem]
  have hbg' : ¬ g = b := fun e => hbg e.symm
  have hend : ∀ k1, BufPg T b g (((w.drewN k1).setCell ⟨g, 0, none⟩ (.int .u8 10)).setCell ⟨b, 2, none⟩ (.int .i64 1)) Fs [] [10] ∧ Upd (fun k => k = b ∨ k = g) w (((w.drewN k1).setCell ⟨g, 0, none⟩ (.int .u8 10)).setCell ⟨b, 2, none⟩ (.int .i64 1)) := fun k1 => by
    have hu0 : Upd (fun k => k = b ∨ k = g) w (((w.drewN k1).setCell ⟨g, 0, none⟩ (.int .u8 10)).setCell ⟨b, 2, none⟩ (.int .i64 1)) :=
      (((Upd.refl _ w).drewN k1).setCell (.inl (.inr rfl)) _).setCell (.inl (.inl rfl)) _
    have hb1 : ((w.drewN k1).setCell ⟨g, 0, none⟩ (.int .u8 10)).heap[b]? = some _ := (Below.heap_setCell _ _ _ _ hbg).trans hb
    refine ⟨⟨cur.setIfInBounds 0 (B8 10), ?_, ?_, by simpa using hsz, by simp, ?_, fun c hc => by rw [List.mem_singleton.1 hc]; exact hk, hs.stable hI hu0 fun k hk e => by rcases e with rfl | rfl; exact hFb hk; exact hFg hk, hbg, hFb, hFg⟩, hu0⟩
    · refine (heap_setCell_at _ hb1).trans ?_
      simp
    · exact (Below.heap_setCell _ _ _ _ hbg').trans (heap_setCell_at _ hg)
    · exact take_set_snoc (l := []) (by simp) (by simp; omega)
  have HEnd := Lib.hid hend
  clear hend hb hg hn htk hok hI hFb hFg
  go_enter Tryz.func242, Tryz.ntmps242
  go_wp2_with (go_at_call 238; refine (avail_any b g _ _ ?_ ?_ hc1 hc2).mono ?_; omega; omega; rintro e w1 ⟨rfl, k1, rfl⟩)
  go_region
  go_wp2
  go_ret
  exact ⟨rfl, HEnd.out _⟩

set_option maxRecDepth 100000 in
set_option maxHeartbeats 1000000 in
theorem cc_addByte10 {pb : Nat} {w : World} {wv tv cv : Value} {s : PS} (h : PCell pb w wv tv cv s) :
    Calls Tryz.prog 345 #[.pointer (some ⟨pb, 2, none⟩), .int .u8 10] w fun e w' => e = .returned (.tuple #[]) ∧ PCell pb w' wv tv cv { s with cc := 1, cl := true } ∧ Upd (fun k => k = pb) w w' := by
  have c3 : w.cell? ⟨pb, 3, none⟩ = some (.int .i64 s.cc) := h.at 3
  have c4 : w.cell? ⟨pb, 4, none⟩ = some (.bool s.cl) := h.at 4
  have f3 := h.fr 3
  have f4 := h.fr 4
  have HA := Lib.hid h
  clear h
  go_enter Tryz.func345, Tryz.ntmps345
  go_wp2
  go_end0
  refine ⟨rfl, ?_, ?_⟩
  · refine (heap_setCell_at _ (heap_setCell_at _ (heap_setCell_at _ HA.out))).trans ?_
    simp [PS.cells]
  · exact Upd.setCell (F := fun k => k = pb) (Upd.setCell (F := fun k => k = pb) (Upd.setCell (F := fun k => k = pb) (Upd.refl _ w) (by exact .inl rfl) _) (by exact .inl rfl) _) (by exact .inl rfl) _

set_option maxRecDepth 100000 in
set_option maxHeartbeats 1000000 in
/-- The column counter's WriteByte of a line feed. -/
theorem cc_wb0 {T : Sink} (hs : T.Law Tryz.prog 561) {pb b g : Nat} {w : World} {wv tv : Value} {Fs : Nat → Prop} {s : PS} (h : PSt T pb b g wv tv (.pointer (some ⟨b, 0, none⟩)) w Fs [] [] s) (hk : T.okb 10 = true) :
    Calls Tryz.prog 343 #[.pointer (some ⟨pb, 2, none⟩), .int .u8 10] w fun e w' => e = .returned .nilIface ∧ PPost T pb b g wv tv (.pointer (some ⟨b, 0, none⟩)) w Fs [] [10] s w' := by
  obtain ⟨hp, hB, hFp, hpb, hpg⟩ := h
  obtain ⟨Q, HQ, HC⟩ := callsVar (cc_addByte10 hp)
  have HB := Lib.hid hB
  have HN := Lib.hid (And.intro hFp (And.intro hpb hpg))
  clear hp hB hFp hpb hpg
  go_enter Tryz.func343, Tryz.ntmps343
  go_wp2_with (go_at_call 345; refine HC.out.mono ?_)
  rintro e w1 hq
  obtain ⟨rfl, hp1, hu1⟩ := HQ.out e w1 hq
  clear hq
  have c2 : w1.cell? ⟨pb, 2, none⟩ = some (.pointer (some ⟨b, 0, none⟩)) := hp1.at 2
  have hB1 := HB.out.stable hs hu1 (fun e => HN.out.2.1 e.symm) (fun e => HN.out.2.2 e.symm) fun k hk e => HN.out.1 (e ▸ hk)
  obtain ⟨Q2, HQ2, HC2⟩ := callsVar (bw_wb0 hs hB1 hk)
  have HP1 := Lib.hid hp1
  have HU1 := Lib.hid hu1
  clear hp1 hu1 hB1
  go_wp2_with (go_at_call 242; refine HC2.out.mono ?_)
  rintro e w2 hq
  obtain ⟨rfl, hB2, hu2⟩ := HQ2.out e w2 hq
  clear hq
  have HEnd : RowKit.Hid (PPost T pb b g wv tv (.pointer (some ⟨b, 0, none⟩)) w Fs [] [10] s w2) :=
    ⟨1, true, ⟨HP1.out.keep hu2 (fun e => e.elim HN.out.2.1 HN.out.2.2), hB2, HN.out.1, HN.out.2.1, HN.out.2.2⟩, (HU1.out.mono fun k hk => .inl hk).trans (hu2.mono fun k hk => .inr hk)⟩
  clear hB2 hu2
  go_wp2
  go_ret
  exact ⟨rfl, HEnd.out⟩

/-- The plain writer's WriteByte of a line feed. -/
theorem bw_wbP {T : Sink} (hs : T.Law Tryz.prog 561) {pb b g : Nat} {w : World} {wv tv cv : Value} {Fs : Nat → Prop} {s : PS} (h : PSt T pb b g wv tv cv w Fs [] [] s) (hk : T.okb 10 = true) :
    Calls Tryz.prog 242 #[.pointer (some ⟨b, 0, none⟩), .int .u8 10] w fun e w' => e = .returned .nilIface ∧ PPost T pb b g wv tv cv w Fs [] [10] s w' := by
  obtain ⟨hp, hB, hFp, hpb, hpg⟩ := h
  refine (bw_wb0 hs hB hk).mono ?_
  rintro e w2 ⟨rfl, hB2, hu2⟩
  exact ⟨rfl, s.cc, s.cl, ⟨hp.keep hu2 (fun e => e.elim hpb hpg), hB2, hFp, hpb, hpg⟩, hu2.mono fun k hk => .inr hk⟩

set_option maxRecDepth 100000 in
set_option maxHeartbeats 1000000 in
/-- The column counter's Reset. -/
theorem cc_rs {T : Sink} (hs : T.Law Tryz.prog 561) (hne : T.NeBW Tryz.prog) {pb b g : Nat} {w : World} {wv tv : Value} {Fs : Nat → Prop} {s : PS} (hp : PCell pb w wv tv (.pointer (some ⟨b, 0, none⟩)) s) (hr : BufRaw b g w) (hI : T.I w Fs []) (hFp : ¬ Fs pb) (hFb : ¬ Fs b) (hFg : ¬ Fs g) (hpb : pb ≠ b) (hpg : pb ≠ g) :
    Calls Tryz.prog 341 #[.pointer (some ⟨pb, 2, none⟩), .iface T.ty (.pointer (some T.ptr))] w fun e w' => e = .returned (.tuple #[]) ∧ PPost T pb b g wv tv (.pointer (some ⟨b, 0, none⟩)) w Fs [] [] s w' := by
  have c2 : w.cell? ⟨pb, 2, none⟩ = some (.pointer (some ⟨b, 0, none⟩)) := hp.at 2
  have c3 : w.cell? ⟨pb, 3, none⟩ = some (.int .i64 s.cc) := hp.at 3
  have c4 : w.cell? ⟨pb, 4, none⟩ = some (.bool s.cl) := hp.at 4
  have f3 := hp.fr 3
  have f4 := hp.fr 4
  have hu : Upd (fun k => k = pb) w ((w.setCell ⟨pb, 3, none⟩ (.int .i64 1)).setCell ⟨pb, 4, none⟩ (.bool true)) :=
    Upd.setCell (F := fun k => k = pb) (Upd.setCell (F := fun k => k = pb) (Upd.refl _ w) (by exact .inl rfl) _) (by exact .inl rfl) _
  have hp1 : PCell pb ((w.setCell ⟨pb, 3, none⟩ (.int .i64 1)).setCell ⟨pb, 4, none⟩ (.bool true)) wv tv (.pointer (some ⟨b, 0, none⟩)) { s with cc := 1, cl := true } := by
    refine (heap_setCell_at _ (heap_setCell_at _ hp)).trans ?_
    simp [PS.cells]
  obtain ⟨Q, HQ, HC⟩ := callsVar (bw_reset hs hne (hr.stable hu (fun e => hpb e.symm) (fun e => hpg e.symm)) (hs.stable hI hu fun k hk e => hFp (e ▸ hk)) hFb hFg)
  have HN := Lib.hid (And.intro hFp (And.intro hpb hpg))
  have HP1 := Lib.hid hp1
  have HU := Lib.hid hu
  clear hp hr hI hFp hFb hFg hpb hpg hu hp1
  go_enter Tryz.func341, Tryz.ntmps341
  go_wp2_with (go_at_call 240; refine HC.out.mono ?_)
  rintro e w2 hq
  obtain ⟨rfl, hB2, hu2⟩ := HQ.out e w2 hq
  clear hq
  have HEnd : RowKit.Hid (PPost T pb b g wv tv (.pointer (some ⟨b, 0, none⟩)) w Fs [] [] s w2) :=
    ⟨1, true, ⟨HP1.out.keep hu2 (fun e => HN.out.2.1 e), hB2, HN.out.1, HN.out.2.1, HN.out.2.2⟩, (HU.out.mono fun k hk => .inl hk).trans (hu2.mono fun k hk => .inr (.inl hk))⟩
  clear hB2 hu2
  go_wp2
  go_end0
  exact ⟨rfl, HEnd.out⟩

theorem bw_rsP {T : Sink} (hs : T.Law Tryz.prog 561) (hne : T.NeBW Tryz.prog) {pb b g : Nat} {w : World} {wv tv cv : Value} {Fs : Nat → Prop} {s : PS} (hp : PCell pb w wv tv cv s) (hr : BufRaw b g w) (hI : T.I w Fs []) (hFp : ¬ Fs pb) (hFb : ¬ Fs b) (hFg : ¬ Fs g) (hpb : pb ≠ b) (hpg : pb ≠ g) :
    Calls Tryz.prog 240 #[.pointer (some ⟨b, 0, none⟩), .iface T.ty (.pointer (some T.ptr))] w fun e w' => e = .returned (.tuple #[]) ∧ PPost T pb b g wv tv cv w Fs [] [] s w' := by
  refine (bw_reset hs hne hr hI hFb hFg).mono ?_
  rintro e w2 ⟨rfl, hB2, hu2⟩
  exact ⟨rfl, s.cc, s.cl, ⟨hp.keep hu2 (fun e => hpb e), hB2, hFp, hpb, hpg⟩, hu2.mono fun k hk => .inr (.inl hk)⟩
end Go.Proofs.YtmdkpihlhdjjaaaGreatFmt

namespace Go.Proofs.YtmdkpihlhdjjaaaGreatFmt
open Go.RowKit

def wvOf (kp : Bool) (pb b : Nat) : Value := if kp then .iface 281 (.pointer (some ⟨pb, 2, none⟩)) else .iface 71 (.pointer (some ⟨b, 0, none⟩))
def cvOf (kp : Bool) (b : Nat) : Value := if kp then .pointer (some ⟨b, 0, none⟩) else .pointer none

/-- What no print changes. -/
def PS.Same (s s' : PS) : Prop := s'.k = s.k ∧ s'.bnl = s.bnl ∧ s'.swt = s.swt ∧ s'.spr = s.spr ∧ s'.kp = s.kp ∧ s'.mi = s.mi ∧ s'.si = s.si ∧ s'.fnl = s.fnl ∧ s'.lic = s.lic ∧ s'.lin ≤ s.lin
theorem PS.Same.refl (s : PS) : s.Same s := ⟨rfl, rfl, rfl, rfl, rfl, rfl, rfl, rfl, rfl, Nat.le_refl _⟩
theorem PS.Same.trans {s t u : PS} (h : s.Same t) (k : t.Same u) : s.Same u :=
  ⟨k.1.trans h.1, k.2.1.trans h.2.1, k.2.2.1.trans h.2.2.1, k.2.2.2.1.trans h.2.2.2.1, k.2.2.2.2.1.trans h.2.2.2.2.1, k.2.2.2.2.2.1.trans h.2.2.2.2.2.1, k.2.2.2.2.2.2.1.trans h.2.2.2.2.2.2.1, k.2.2.2.2.2.2.2.1.trans h.2.2.2.2.2.2.2.1, k.2.2.2.2.2.2.2.2.1.trans h.2.2.2.2.2.2.2.2.1, Nat.le_trans k.2.2.2.2.2.2.2.2.2 h.2.2.2.2.2.2.2.2.2⟩

/-- What a call leaves. -/
def PDone (T : Sink) (pb b g : Nat) (tv : Value) (kp : Bool) (w : World) (Fs : Nat → Prop) (inner pend : List UInt8) (s : PS) (w' : World) : Prop :=
  ∃ s', PSt T pb b g (wvOf kp pb b) tv (cvOf kp b) w' Fs inner pend s' ∧ s.Same s' ∧ Upd (fun k => k = pb ∨ k = b ∨ k = g) w w'

set_option maxRecDepth 100000 in
theorem line0 (w : World) : Calls Tryz.prog 41 #[.agg #[.int .u32 0, .int .u32 0]] w fun e w' => e = .returned (.int .u64 0) ∧ Upd (fun _ => False) w w' := by
  go_enter Tryz.func41, Tryz.ntmps41
  go_wp2
  go_ret
  exact ⟨rfl, (Upd.refl _ w).alloc _⟩

set_option maxRecDepth 100000 in
theorem pe_advance0 {pb : Nat} {w : World} {wv tv cv : Value} {s : PS} (h : PCell pb w wv tv cv s) :
    Calls Tryz.prog 69 #[.pointer (some ⟨pb, 0, none⟩), .int .u64 0] w fun e w' => e = .returned (.tuple #[]) ∧ PCell pb w' wv tv cv s ∧ Upd (fun k => k = pb) w w' := by
  have c19 : w.cell? ⟨pb, 19, none⟩ = some (.int .u64 (s.ln : Int)) := h.at 19
  have f19 := h.fr 19
  have hmax : max (s.ln : Int) 0 = (s.ln : Int) := by omega
  have HA := Lib.hid h
  clear h
  go_enter Tryz.func69, Tryz.ntmps69
  go_wp2
  go_end0
  exact ⟨rfl, HA.out.set rfl, (Upd.refl (fun k => k = pb) w).setCell (p := ⟨pb, 19, none⟩) (.inl rfl) _⟩

set_option maxRecDepth 100000 in
set_option maxHeartbeats 4000000 in
theorem pe_newline_f {T : Sink} (hs : T.Law Tryz.prog 561) {pb b g : Nat} {w : World} {tv : Value} {Fs : Nat → Prop} {s : PS} (h : PSt T pb b g (wvOf false pb b) tv (cvOf false b) w Fs [] [] s) (hk : T.okb 10 = true) :
    Calls Tryz.prog 38 #[.pointer (some ⟨pb, 0, none⟩), .agg #[.int .u32 0, .int .u32 0]] w fun e w' => e = .returned (.tuple #[]) ∧ PDone T pb b g tv false w Fs [] [10] s w' := by
  have hu0 : Upd (fun _ => False) w (w.alloc (.cells #[.int .u32 0, .int .u32 0] 40)) := (Upd.refl _ w).alloc _
  have hX : (w.alloc (.cells #[.int .u32 0, .int .u32 0] 40)).heap[w.heap.size]? = some (.cells #[.int .u32 0, .int .u32 0] 40 (0, 0)) := heap_alloc_new _ _
  obtain ⟨hp, hB, hFp, hpb, hpg⟩ := h
  have hlb : b < w.heap.size := by obtain ⟨_, h, _⟩ := hB; exact heap_lt h
  have hlg : g < w.heap.size := by obtain ⟨_, _, h, _⟩ := hB; exact heap_lt h
  have hlp : pb < w.heap.size := heap_lt hp
  have hp0 := hp.keep hu0 fun h => h
  have hB0 := hB.stable hs hu0 (fun h => h) (fun h => h) fun _ _ h => h
  have HFh := Lib.hid (pe_fh hp0)
  obtain ⟨Q1, HQ1, HC1⟩ := callsVar (pe_fc hp0)
  have HB0 := Lib.hid hB0
  have HX := Lib.hid hX
  have HU0 := Lib.hid hu0
  have HN := Lib.hid (And.intro hFp (And.intro hpb (And.intro hpg (And.intro hlb (And.intro hlg hlp)))))
  have HL := Lib.hid line0
  clear hp hB hFp hpb hpg hp0 hB0 hX hu0 hlb hlg hlp
  have hm := bw_meth_wb b
  have ha := bw_ahead_wb b
  go_enter Tryz.func38, Tryz.ntmps38
  go_wp2_with (first | (go_at_call 46; refine HFh.out.mono ?_; rintro e w1 ⟨rfl, rfl⟩) | (go_at_call 47; refine HC1.out.mono ?_))
  rintro e w1 hq
  obtain ⟨rfl, hp1, hu1⟩ := HQ1.out e w1 hq
  clear hq
  have hS1 : PSt T pb b g (wvOf false pb b) tv (cvOf false b) w1 Fs [] [] s.noCom := ⟨hp1, HB0.out.stable hs hu1 (fun e => HN.out.2.1 e.symm) (fun e => HN.out.2.2.1 e.symm) fun k hk e => HN.out.1 (e ▸ hk), HN.out.1, HN.out.2.1, HN.out.2.2.1⟩
  have c0 : w1.cell? ⟨pb, 0, none⟩ = some (.iface 71 (.pointer (some ⟨b, 0, none⟩))) := hp1.at 0
  have HX1 := Lib.hid (hu1.heap HX.out (by have := HN.out.2.2.2.2.2; omega))
  have HU1 := Lib.hid ((HU0.out.mono (G := fun k => k = pb) fun _ h => h.elim).trans hu1)
  obtain ⟨Q2, HQ2, HC2⟩ := callsVar (bw_wbP hs hS1 hk)
  clear hp1 hu1 hS1
  go_wp2_with (go_at_call 242; refine HC2.out.mono ?_)
  rintro e w2 hq
  obtain ⟨rfl, cc, cl, ⟨hp2, hB2, _⟩, hu2⟩ := HQ2.out e w2 hq
  clear hq
  have c13 : w2.cell? ⟨pb, 13, none⟩ = some (.int .u8 (s.ws : Int)) := hp2.at 13
  have c14 : w2.cell? ⟨pb, 14, none⟩ = some (.bool s.wn) := hp2.at 14
  have c15 : w2.cell? ⟨pb, 15, none⟩ = some (.bool s.mn) := hp2.at 15
  have f13 := hp2.fr 13
  have f14 := hp2.fr 14
  have f15 := hp2.fr 15
  have HX2 := Lib.hid (hu2.heap HX1.out (by have := HN.out.2.2.2; rintro (h | h | h) <;> omega))
  have x0 : w2.cell? ⟨w.heap.size, 0, none⟩ = some (.int .u32 0) := cell_at HX2.out 0
  have x1 : w2.cell? ⟨w.heap.size, 1, none⟩ = some (.int .u32 0) := cell_at HX2.out 1
  have hne : ¬ pb = w.heap.size := by have := HN.out.2.2.2.2.2; omega
  have hne' : ¬ w.heap.size = pb := fun e => hne e.symm
  have hu3 : Upd (fun k => k = pb) w2 (((w2.setCell ⟨pb, 13, none⟩ (.int .u8 2)).setCell ⟨pb, 14, none⟩ (.bool false)).setCell ⟨pb, 15, none⟩ (.bool false)) :=
    Upd.setCell (F := fun k => k = pb) (Upd.setCell (F := fun k => k = pb) (Upd.setCell (F := fun k => k = pb) (Upd.refl _ w2) (by exact .inl rfl) _) (by exact .inl rfl) _) (by exact .inl rfl) _
  have hp3 : PCell pb (((w2.setCell ⟨pb, 13, none⟩ (.int .u8 2)).setCell ⟨pb, 14, none⟩ (.bool false)).setCell ⟨pb, 15, none⟩ (.bool false)) (wvOf false pb b) tv (cvOf false b) { s.noCom with cc := cc, cl := cl, ws := 2, wn := false, mn := false } :=
    ((hp2.set (s' := { s.noCom with cc := cc, cl := cl, ws := 2 }) rfl).set (s' := { s.noCom with cc := cc, cl := cl, ws := 2, wn := false }) rfl).set rfl
  have HAdv := Lib.hid (fun (W : World) (hW : Upd (fun _ => False) (((w2.setCell ⟨pb, 13, none⟩ (.int .u8 2)).setCell ⟨pb, 14, none⟩ (.bool false)).setCell ⟨pb, 15, none⟩ (.bool false)) W) => pe_advance0 (hp3.keep hW fun h => h))
  have HB2 := Lib.hid hB2
  have HU2 := Lib.hid hu2
  have HU3 := Lib.hid hu3
  clear hp2 hB2 hu2 hu3 hp3
  go_wp2_with (first
    | (go_at_call 41; refine (HL.out _).mono ?_; rintro e w4 ⟨rfl, hu4⟩; have HU4 := Lib.hid hu4; clear hu4)
    | (go_at_call 69; refine (HAdv.out _ HU4.out).mono ?_; rintro e w5 ⟨rfl, hp5, hu5⟩; have HP5 := Lib.hid hp5; have HU5 := Lib.hid hu5; clear hp5 hu5))
  go_end0
  have hu25 : Upd (fun k => k = pb) w2 w5 := (HU3.out.trans (HU4.out.mono fun _ h => h.elim)).trans HU5.out
  refine ⟨rfl, _, ⟨HP5.out, HB2.out.stable hs hu25 (fun e => HN.out.2.1 e.symm) (fun e => HN.out.2.2.1 e.symm) fun k hk e => HN.out.1 (e ▸ hk), HN.out.1, HN.out.2.1, HN.out.2.2.1⟩, ⟨rfl, rfl, rfl, rfl, rfl, rfl, rfl, rfl, rfl, Nat.le_refl _⟩, ?_⟩
  exact ((HU1.out.mono fun k hk => .inl hk).trans HU2.out).trans (hu25.mono fun k hk => .inl hk)

set_option maxRecDepth 100000 in
set_option maxHeartbeats 4000000 in
theorem pe_newline_t {T : Sink} (hs : T.Law Tryz.prog 561) {pb b g : Nat} {w : World} {tv : Value} {Fs : Nat → Prop} {s : PS} (h : PSt T pb b g (wvOf true pb b) tv (cvOf true b) w Fs [] [] s) (hk : T.okb 10 = true) :
    Calls Tryz.prog 38 #[.pointer (some ⟨pb, 0, none⟩), .agg #[.int .u32 0, .int .u32 0]] w fun e w' => e = .returned (.tuple #[]) ∧ PDone T pb b g tv true w Fs [] [10] s w' := by
  have hu0 : Upd (fun _ => False) w (w.alloc (.cells #[.int .u32 0, .int .u32 0] 40)) := (Upd.refl _ w).alloc _
  have hX : (w.alloc (.cells #[.int .u32 0, .int .u32 0] 40)).heap[w.heap.size]? = some (.cells #[.int .u32 0, .int .u32 0] 40 (0, 0)) := heap_alloc_new _ _
  obtain ⟨hp, hB, hFp, hpb, hpg⟩ := h
  have hlb : b < w.heap.size := by obtain ⟨_, h, _⟩ := hB; exact heap_lt h
  have hlg : g < w.heap.size := by obtain ⟨_, _, h, _⟩ := hB; exact heap_lt h
  have hlp : pb < w.heap.size := heap_lt hp
  have hp0 := hp.keep hu0 fun h => h
  have hB0 := hB.stable hs hu0 (fun h => h) (fun h => h) fun _ _ h => h
  have HFh := Lib.hid (pe_fh hp0)
  obtain ⟨Q1, HQ1, HC1⟩ := callsVar (pe_fc hp0)
  have HB0 := Lib.hid hB0
  have HX := Lib.hid hX
  have HU0 := Lib.hid hu0
  have HN := Lib.hid (And.intro hFp (And.intro hpb (And.intro hpg (And.intro hlb (And.intro hlg hlp)))))
  have HL := Lib.hid line0
  clear hp hB hFp hpb hpg hp0 hB0 hX hu0 hlb hlg hlp
  have hm := cc_meth_wb pb
  have ha := cc_ahead_wb pb
  go_enter Tryz.func38, Tryz.ntmps38
  go_wp2_with (first | (go_at_call 46; refine HFh.out.mono ?_; rintro e w1 ⟨rfl, rfl⟩) | (go_at_call 47; refine HC1.out.mono ?_))
  rintro e w1 hq
  obtain ⟨rfl, hp1, hu1⟩ := HQ1.out e w1 hq
  clear hq
  have hS1 : PSt T pb b g (wvOf true pb b) tv (cvOf true b) w1 Fs [] [] s.noCom := ⟨hp1, HB0.out.stable hs hu1 (fun e => HN.out.2.1 e.symm) (fun e => HN.out.2.2.1 e.symm) fun k hk e => HN.out.1 (e ▸ hk), HN.out.1, HN.out.2.1, HN.out.2.2.1⟩
  have c0 : w1.cell? ⟨pb, 0, none⟩ = some (.iface 281 (.pointer (some ⟨pb, 2, none⟩))) := hp1.at 0
  have HX1 := Lib.hid (hu1.heap HX.out (by have := HN.out.2.2.2.2.2; omega))
  have HU1 := Lib.hid ((HU0.out.mono (G := fun k => k = pb) fun _ h => h.elim).trans hu1)
  obtain ⟨Q2, HQ2, HC2⟩ := callsVar (cc_wb0 hs hS1 hk)
  clear hp1 hu1 hS1
  go_wp2_with (go_at_call 343; refine HC2.out.mono ?_)
  rintro e w2 hq
  obtain ⟨rfl, cc, cl, ⟨hp2, hB2, _⟩, hu2⟩ := HQ2.out e w2 hq
  clear hq
  have c13 : w2.cell? ⟨pb, 13, none⟩ = some (.int .u8 (s.ws : Int)) := hp2.at 13
  have c14 : w2.cell? ⟨pb, 14, none⟩ = some (.bool s.wn) := hp2.at 14
  have c15 : w2.cell? ⟨pb, 15, none⟩ = some (.bool s.mn) := hp2.at 15
  have f13 := hp2.fr 13
  have f14 := hp2.fr 14
  have f15 := hp2.fr 15
  have HX2 := Lib.hid (hu2.heap HX1.out (by have := HN.out.2.2.2; rintro (h | h | h) <;> omega))
  have x0 : w2.cell? ⟨w.heap.size, 0, none⟩ = some (.int .u32 0) := cell_at HX2.out 0
  have x1 : w2.cell? ⟨w.heap.size, 1, none⟩ = some (.int .u32 0) := cell_at HX2.out 1
  have hne : ¬ pb = w.heap.size := by have := HN.out.2.2.2.2.2; omega
  have hne' : ¬ w.heap.size = pb := fun e => hne e.symm
  have hu3 : Upd (fun k => k = pb) w2 (((w2.setCell ⟨pb, 13, none⟩ (.int .u8 2)).setCell ⟨pb, 14, none⟩ (.bool false)).setCell ⟨pb, 15, none⟩ (.bool false)) :=
    Upd.setCell (F := fun k => k = pb) (Upd.setCell (F := fun k => k = pb) (Upd.setCell (F := fun k => k = pb) (Upd.refl _ w2) (by exact .inl rfl) _) (by exact .inl rfl) _) (by exact .inl rfl) _
  have hp3 : PCell pb (((w2.setCell ⟨pb, 13, none⟩ (.int .u8 2)).setCell ⟨pb, 14, none⟩ (.bool false)).setCell ⟨pb, 15, none⟩ (.bool false)) (wvOf true pb b) tv (cvOf true b) { s.noCom with cc := cc, cl := cl, ws := 2, wn := false, mn := false } :=
    ((hp2.set (s' := { s.noCom with cc := cc, cl := cl, ws := 2 }) rfl).set (s' := { s.noCom with cc := cc, cl := cl, ws := 2, wn := false }) rfl).set rfl
  have HAdv := Lib.hid (fun (W : World) (hW : Upd (fun _ => False) (((w2.setCell ⟨pb, 13, none⟩ (.int .u8 2)).setCell ⟨pb, 14, none⟩ (.bool false)).setCell ⟨pb, 15, none⟩ (.bool false)) W) => pe_advance0 (hp3.keep hW fun h => h))
  have HB2 := Lib.hid hB2
  have HU2 := Lib.hid hu2
  have HU3 := Lib.hid hu3
  clear hp2 hB2 hu2 hu3 hp3
  go_wp2_with (first
    | (go_at_call 41; refine (HL.out _).mono ?_; rintro e w4 ⟨rfl, hu4⟩; have HU4 := Lib.hid hu4; clear hu4)
    | (go_at_call 69; refine (HAdv.out _ HU4.out).mono ?_; rintro e w5 ⟨rfl, hp5, hu5⟩; have HP5 := Lib.hid hp5; have HU5 := Lib.hid hu5; clear hp5 hu5))
  go_end0
  have hu25 : Upd (fun k => k = pb) w2 w5 := (HU3.out.trans (HU4.out.mono fun _ h => h.elim)).trans HU5.out
  refine ⟨rfl, _, ⟨HP5.out, HB2.out.stable hs hu25 (fun e => HN.out.2.1 e.symm) (fun e => HN.out.2.2.1 e.symm) fun k hk e => HN.out.1 (e ▸ hk), HN.out.1, HN.out.2.1, HN.out.2.2.1⟩, ⟨rfl, rfl, rfl, rfl, rfl, rfl, rfl, rfl, rfl, Nat.le_refl _⟩, ?_⟩
  exact ((HU1.out.mono fun k hk => .inl hk).trans HU2.out).trans (hu25.mono fun k hk => .inl hk)

theorem pe_newline {T : Sink} (hs : T.Law Tryz.prog 561) {pb b g : Nat} {w : World} {tv : Value} {kp : Bool} {Fs : Nat → Prop} {s : PS} (h : PSt T pb b g (wvOf kp pb b) tv (cvOf kp b) w Fs [] [] s) (hk : T.okb 10 = true) :
    Calls Tryz.prog 38 #[.pointer (some ⟨pb, 0, none⟩), .agg #[.int .u32 0, .int .u32 0]] w fun e w' => e = .returned (.tuple #[]) ∧ PDone T pb b g tv kp w Fs [] [10] s w' := by
  cases kp
  · exact pe_newline_f hs h hk
  · exact pe_newline_t hs h hk
end Go.Proofs.YtmdkpihlhdjjaaaGreatFmt

namespace Go.Proofs.YtmdkpihlhdjjaaaGreatFmt
open Go.RowKit

/-- The Printer between two prints; G holds the rows of its tabwriter. -/
structure PrIdle (pb b g tb : Nat) (s : PS) (w : World) (G : Nat → Prop) : Prop where
  cell : PCell pb w (wvOf s.kp pb b) (.pointer (some ⟨tb, 0, none⟩)) (cvOf s.kp b) s
  buf : BufRaw b g w
  tab : TwRaw tb w G
  lin : s.lin ≤ s.lic
  dis : pb ≠ b ∧ pb ≠ g ∧ pb ≠ tb ∧ b ≠ tb ∧ g ≠ tb ∧ ¬ G pb ∧ ¬ G b ∧ ¬ G g

/-- The blocks of a Printer. -/
def PrOwn (pb b g tb : Nat) (G : Nat → Prop) (k : Nat) : Prop := k = pb ∨ k = b ∨ k = g ∨ k = tb ∨ G k

/-- An empty File. -/
def FileAt (fb : Nat) (w : World) : Prop := ∃ n, w.heap[fb]? = some (.cells #[n, .slice none 0 0, .slice none 0 0] 102 (0, 0))

set_option maxRecDepth 100000 in
set_option maxHeartbeats 4000000 in
/-- With minify and singleLine on, Print refuses. -/
theorem pe_Print_refuses {S : Sink} {pb b g tb : Nat} {s : PS} {w : World} {G : Nat → Prop} (h : PrIdle pb b g tb s w G) (hm : s.mi = true) (hsi : s.si = true) (nd : Value) :
    Calls Tryz.prog 12 #[.pointer (some ⟨pb, 0, none⟩), .iface S.ty (.pointer (some S.ptr)), nd] w fun e w' => (∃ t v, e = .returned (.iface t v)) ∧ PrIdle pb b g tb s.rst w' G ∧ Upd (fun k => k = pb) w w' := by
  obtain ⟨hc, hb, ht, hl, hd⟩ := h
  obtain ⟨Q, HQ, HC⟩ := callsVar (pe_reset hc hl)
  have HK := Lib.hid (And.intro hb (And.intro ht (And.intro hl hd)))
  clear hc hb ht hl hd
  go_enter Tryz.func12, Tryz.ntmps12
  go_wp2_with (go_at_call 34; refine HC.out.mono ?_)
  rintro e w1 hq
  obtain ⟨rfl, hp1, hu1⟩ := HQ.out e w1 hq
  clear hq
  have c10 : w1.cell? ⟨pb, 10, none⟩ = some (.bool true) := by rw [hp1.at 10, ← hm]; rfl
  have c11 : w1.cell? ⟨pb, 11, none⟩ = some (.bool true) := by rw [hp1.at 11, ← hsi]; rfl
  have HP1 := Lib.hid hp1
  have HU1 := Lib.hid hu1
  clear hp1 hu1
  go_wp2_with (go_at_call 35; refine (fmt_Errorf _ ?_ _).mono ?_; kernel_rfl)
  rintro e w2 ⟨⟨t, v, rfl⟩, hu2⟩
  have HU2 := Lib.hid hu2
  clear hu2
  go_wp2
  go_ret
  obtain ⟨hb, ht, hl, hd⟩ := HK.out
  have hu : Upd (fun k => k = pb) w w2 := HU1.out.trans (HU2.out.mono fun _ h => h.elim)
  refine ⟨⟨t, v, rfl⟩, ⟨HP1.out.keep HU2.out fun h => h, hb.stable hu (fun e => hd.1 e.symm) (fun e => hd.2.1 e.symm), ht.stable hu fun k hk e => ?_, Nat.zero_le _, hd⟩, hu⟩
  subst e
  rcases hk with hk | hk
  · exact hd.2.2.1 hk
  · exact hd.2.2.2.2.2.1 hk

theorem TwIdle.raw {S : Sink} {tb : Nat} {w : World} {H : Nat → Prop} {inner t : List UInt8} {twd fg : Nat} (h : TwIdle S tb w H inner t twd fg) : ∃ G, TwRaw tb w G ∧ ∀ k, G k → H k := by
  obtain ⟨G, Fs, hA, hH⟩ := h
  exact ⟨G, hA.raw, fun k hk => (hH k).2 (.inr (.inl hk))⟩

theorem TwIdle.sink {S : Sink} {tb : Nat} {w : World} {H : Nat → Prop} {inner t : List UInt8} {twd fg : Nat} (h : TwIdle S tb w H inner t twd fg) : ∃ G Fs, TwRaw tb w G ∧ S.I w Fs inner ∧ (∀ k, G k → ¬ Fs k) ∧ ¬ Fs tb ∧ (∀ k, H k ↔ k = tb ∨ G k ∨ Fs k) := by
  obtain ⟨G, Fs, hA, hH⟩ := h
  have hA' := hA
  obtain ⟨vb, vl, aw, cap, hb, hr, hvb, hl, hI, hFt, hGt, hGF, hGl, hfg⟩ := hA
  exact ⟨G, Fs, hA'.raw, hI, hGF, hFt, hH⟩

/-- The last line is through. -/
theorem twI_lf {S : Sink} {tb twd fg : Nat} {w : World} {H : Nat → Prop} (h : twI S tb twd fg w H [10]) : TwIdle S tb w H [10] [] twd fg := by
  obtain ⟨inner, t, hi, e, hn⟩ := h
  have ht : t = [] := by
    cases inner with
    | nil =>
      simp at e
      subst e
      exact absurd rfl (hn 10 (by simp))
    | cons a l =>
      have := congrArg List.length e
      simp only [List.length_cons, List.length_append, List.length_nil] at this
      exact List.eq_nil_of_length_eq_zero (by omega)
  subst ht
  rw [List.append_nil] at e
  subst e
  exact hi

/-- A Printer between two prints, with all its blocks. -/
def PrAny (pb b tb : Nat) (s : PS) (w : World) (O : Nat → Prop) : Prop := ∃ g G, PrIdle pb b g tb s w G ∧ ∀ k, O k ↔ PrOwn pb b g tb G k

/-- What Print of an empty file leaves. -/
def PrintDone (S : Sink) (pb b tb : Nat) (s : PS) (O Fs : Nat → Prop) (w w' : World) : Prop :=
  ∃ s' O' F', PrAny pb b tb s' w' O' ∧ s.Same s' ∧ S.I w' F' [10] ∧ (∀ k, O' k → ¬ F' k) ∧ (∀ k, (O' k ∨ F' k) → (O k ∨ Fs k) ∨ w.heap.size ≤ k) ∧ Upd (fun k => O k ∨ Fs k) w w'

/-- What is left of the Printer behind the flush of its buffer. -/
theorem print_end {S : Sink} (_ : S.Law Tryz.prog 561) {pb b tb twd fg : Nat} {w w6 w7 w8 : World} {s s6 : PS} {O Fs Fs7 H2 : Nat → Prop} {g0 g : Nat}
    (hp6 : PCell pb w6 (wvOf s.kp pb b) (.pointer (some ⟨tb, 0, none⟩)) (cvOf s.kp b) s6) (hsame : s.Same s6) (hlin : s6.lin ≤ s6.lic)
    (h7 : BufPg (twSink S tb twd fg) b g w7 Fs7 [10] []) (hF7 : ∀ k, (k = b ∨ k = g ∨ Fs7 k) → (k = b ∨ k = g0 ∨ H2 k) ∨ w6.heap.size ≤ k) (hu7 : Upd (fun k => k = b ∨ k = g0 ∨ H2 k) w6 w7)
    (hH2 : ∀ k, H2 k → (O k ∨ Fs k) ∨ w.heap.size ≤ k) (hnp : ¬ (pb = b ∨ pb = g0 ∨ H2 pb)) (hb : O b) (hg : O g0) (hpb : O pb) (hu6 : Upd (fun k => O k ∨ Fs k) w w6)
    (h8 : TwDone S tb Fs7 [10] [] twd fg w7 w8) :
    PrintDone S pb b tb s O Fs w w8 := by
  obtain ⟨cur, hbb, hgg, hsz, hn, htk, hok, hI, hbg, hFb, hFg⟩ := h7
  have hlp : pb < w6.heap.size := heap_lt hp6
  obtain ⟨H8, hi8, hH8, hu8⟩ := h8
  have htb : Fs7 tb := by
    obtain ⟨inner, t, ⟨G, Fs, hA, hH⟩, _⟩ := hI
    exact (hH tb).2 (.inl rfl)
  have hp7 : ¬ (pb = b ∨ pb = g ∨ Fs7 pb) := fun h => by
    rcases hF7 pb h with h | h
    · exact hnp h
    · omega
  have hpF : ¬ Fs7 pb := fun h => hp7 (.inr (.inr h))
  have hl7 : ∀ k, k < w7.heap.size → ¬ Fs7 k → ¬ H8 k := fun k hk hn hh => by
    rcases hH8 k hh with h | h
    · exact hn h
    · omega
  have hp8 : PCell pb w8 (wvOf s.kp pb b) (.pointer (some ⟨tb, 0, none⟩)) (cvOf s.kp b) s6 := (hp6.keep hu7 hnp).keep hu8 hpF
  have hb8 := hu8.heap hbb hFb
  have hg8 := hu8.heap hgg hFg
  have hlb := heap_lt hbb
  have hlg := heap_lt hgg
  have hlp7 : pb < w7.heap.size := Nat.lt_of_lt_of_le hlp hu7.size
  obtain ⟨G, F8, hraw, hI8, hGF, hFt8, hHiff⟩ := hi8.sink
  have hG8 : ∀ k, G k → H8 k := fun k hk => (hHiff k).2 (.inr (.inl hk))
  have ht8 : H8 tb := (hHiff tb).2 (.inl rfl)
  have hgp : g ≠ pb := fun e => hp7 (.inr (.inl e.symm))
  have hbp : b ≠ pb := fun e => hp7 (.inl e.symm)
  have n8p := hl7 pb hlp7 hpF
  have n8b := hl7 b hlb hFb
  have n8g := hl7 g hlg hFg
  -- where the blocks come from
  have ho7 : ∀ k, (k = b ∨ k = g ∨ Fs7 k) → (O k ∨ Fs k) ∨ w.heap.size ≤ k := fun k hk => by
    rcases hF7 k hk with (rfl | rfl | h) | h
    · exact .inl (.inl hb)
    · exact .inl (.inl hg)
    · exact hH2 k h
    · exact .inr (Nat.le_trans hu6.size h)
  have ho8 : ∀ k, H8 k → (O k ∨ Fs k) ∨ w.heap.size ≤ k := fun k hk => by
    rcases hH8 k hk with h | h
    · exact ho7 k (.inr (.inr h))
    · exact .inr (Nat.le_trans hu6.size (Nat.le_trans hu7.size h))
  have hkp : s6.kp = s.kp := hsame.2.2.2.2.1
  refine ⟨s6, PrOwn pb b g tb G, F8, ⟨g, G, ⟨by rw [hkp]; exact hp8, ⟨_, _, _, cur, hb8, hg8, hsz, hbg⟩, hraw, hlin, ?_⟩, fun k => Iff.rfl⟩, hsame, hI8, ?_, ?_, ?_⟩
  · exact ⟨hbp.symm, hgp.symm, fun e => n8p (e ▸ ht8), fun e => n8b (e ▸ ht8), fun e => n8g (e ▸ ht8), fun h => n8p (hG8 _ h), fun h => n8b (hG8 _ h), fun h => n8g (hG8 _ h)⟩
  · intro k hk hf
    have hk8 : H8 k := (hHiff k).2 (.inr (.inr hf))
    rcases hk with rfl | rfl | rfl | rfl | hk
    · exact n8p hk8
    · exact n8b hk8
    · exact n8g hk8
    · exact hFt8 hf
    · exact hGF k hk hf
  · intro k hk
    rcases hk with (rfl | rfl | rfl | rfl | hk) | hk
    · exact .inl (.inl hpb)
    · exact .inl (.inl hb)
    · exact ho7 _ (.inr (.inl rfl))
    · exact ho8 _ ht8
    · exact ho8 k (hG8 k hk)
    · exact ho8 k ((hHiff k).2 (.inr (.inr hk)))
  · refine (hu6.trans' hu7 fun k hk => ?_).trans' hu8 fun k hk => ?_
    · rcases hk with rfl | rfl | h
      · exact .inl (.inl hb)
      · exact .inl (.inl hg)
      · exact hH2 k h
    · exact ho7 k (.inr (.inr hk))
end Go.Proofs.YtmdkpihlhdjjaaaGreatFmt

namespace Go.Proofs.YtmdkpihlhdjjaaaGreatFmt
open Go.RowKit

theorem PrIdle.own_lt {pb b g tb : Nat} {s : PS} {w : World} {G : Nat → Prop} (h : PrIdle pb b g tb s w G) : ∀ k, PrOwn pb b g tb G k → k < w.heap.size := by
  obtain ⟨hc, ⟨_, _, _, _, hb, hg, _⟩, ⟨_, _, _, _, _, _, _, _, _, _, _, _, _, _, _, ht, _, _, _, _, hG⟩, _, _⟩ := h
  rintro k (rfl | rfl | rfl | rfl | hk)
  · exact heap_lt hc
  · exact heap_lt hb
  · exact heap_lt hg
  · exact heap_lt ht
  · exact hG k hk

/-- What is known where the buffer and the tabwriter have been made ready. -/
structure PrReady (S : Sink) (pb b g tb fb twd fg : Nat) (s : PS) (fn : Value) (w w2 : World) (G Fs H2 : Nat → Prop) : Prop where
  cell : PCell pb w2 (wvOf s.kp pb b) (.pointer (some ⟨tb, 0, none⟩)) (cvOf s.kp b) s.rst
  buf : BufRaw b g w2
  idle : TwIdle S tb w2 H2 [] [] twd fg
  file : w2.heap[fb]? = some (.cells #[fn, .slice none 0 0, .slice none 0 0] 102 (0, 0))
  own : ∀ k, H2 k → ((PrOwn pb b g tb G k ∨ Fs k) ∨ w.heap.size ≤ k)
  np : ¬ H2 pb ∧ ¬ H2 b ∧ ¬ H2 g ∧ ¬ H2 fb
  ne : pb ≠ b ∧ pb ≠ g ∧ fb ≠ pb ∧ fb ≠ b ∧ fb ≠ g
  upd : Upd (fun k => PrOwn pb b g tb G k ∨ Fs k) w w2

theorem pr_ready {S : Sink} (_ : S.Law Tryz.prog 561) {pb b g tb fb twd fg : Nat} {s : PS} {fn : Value} {w w1 w2 : World} {G Fs H2 : Nat → Prop} (h : PrIdle pb b g tb s w G) (hdF : ∀ k, PrOwn pb b g tb G k → ¬ Fs k)
    (hf : w.heap[fb]? = some (.cells #[fn, .slice none 0 0, .slice none 0 0] 102 (0, 0))) (hfo : ¬ PrOwn pb b g tb G fb) (hfF : ¬ Fs fb)
    (hp1 : PCell pb w1 (wvOf s.kp pb b) (.pointer (some ⟨tb, 0, none⟩)) (cvOf s.kp b) s.rst) (hu1 : Upd (fun k => k = pb) w w1)
    (hi2 : TwIdle S tb w2 H2 [] [] twd fg) (hH2 : ∀ k, H2 k → (k = tb ∨ G k ∨ Fs k) ∨ w1.heap.size ≤ k) (hu2 : Upd (fun k => k = tb ∨ G k) w1 w2) : PrReady S pb b g tb fb twd fg s fn w w2 G Fs H2 := by
  have hlt := h.own_lt
  obtain ⟨hc, hb, ht, hl, hd⟩ := h
  obtain ⟨d1, d2, d3, d4, d5, d6, d7, d8⟩ := hd
  have hfp : fb ≠ pb := fun e => hfo (.inl e)
  have hfb : fb ≠ b := fun e => hfo (.inr (.inl e))
  have hfg : fb ≠ g := fun e => hfo (.inr (.inr (.inl e)))
  have hft : fb ≠ tb := fun e => hfo (.inr (.inr (.inr (.inl e))))
  have hfG : ¬ G fb := fun e => hfo (.inr (.inr (.inr (.inr e))))
  have hz := hu1.size
  have hn : ∀ k, k < w.heap.size → k ≠ tb → ¬ G k → ¬ Fs k → ¬ H2 k := fun k hk h1 h2 h3 hh => by
    rcases hH2 k hh with (h | h | h) | h
    · exact h1 h
    · exact h2 h
    · exact h3 h
    · omega
  refine ⟨hp1.keep hu2 (fun e => e.elim d3 d6), (hb.stable hu1 (fun e => d1 e.symm) (fun e => d2 e.symm)).stable hu2 (fun e => e.elim d4 d7) (fun e => e.elim d5 d8), hi2, ?_, fun k hk => ?_, ⟨?_, ?_, ?_, ?_⟩, ⟨d1, d2, hfp, hfb, hfg⟩, ?_⟩
  · exact (hu2.heap (hu1.heap hf hfp) (fun e => e.elim hft hfG))
  · rcases hH2 k hk with (h | h | h) | h
    · exact .inl (.inl (.inr (.inr (.inr (.inl h)))))
    · exact .inl (.inl (.inr (.inr (.inr (.inr h)))))
    · exact .inl (.inr h)
    · exact .inr (Nat.le_trans hz h)
  · exact hn pb (hlt pb (.inl rfl)) d3 d6 (hdF pb (.inl rfl))
  · exact hn b (hlt b (.inr (.inl rfl))) d4 d7 (hdF b (.inr (.inl rfl)))
  · exact hn g (hlt g (.inr (.inr (.inl rfl)))) d5 d8 (hdF g (.inr (.inr (.inl rfl))))
  · exact hn fb (heap_lt hf) hft hfG hfF
  · refine (hu1.mono fun k hk => .inl (.inl hk)).trans (hu2.mono fun k hk => ?_)
    rcases hk with h | h
    · exact .inl (.inr (.inr (.inr (.inl h))))
    · exact .inl (.inr (.inr (.inr (.inr h))))

end Go.Proofs.YtmdkpihlhdjjaaaGreatFmt

namespace Go.Proofs.YtmdkpihlhdjjaaaGreatFmt
open Go.RowKit

theorem PrAny.lt {pb b tb : Nat} {s : PS} {w : World} {O : Nat → Prop} (h : PrAny pb b tb s w O) : ∀ k, O k → k < w.heap.size := by
  obtain ⟨g, G, h, hO⟩ := h
  exact fun k hk => h.own_lt k ((hO k).1 hk)

theorem PrAny.stable {pb b tb : Nat} {s : PS} {w w' : World} {O F : Nat → Prop} (h : PrAny pb b tb s w O) (hu : Upd F w w') (hd : ∀ k, O k → ¬ F k) : PrAny pb b tb s w' O := by
  obtain ⟨g, G, ⟨hc, hb, ht, hl, hdis⟩, hO⟩ := h
  refine ⟨g, G, ⟨hc.keep hu (hd pb ((hO pb).2 (.inl rfl))), hb.stable hu (hd b ((hO b).2 (.inr (.inl rfl)))) (hd g ((hO g).2 (.inr (.inr (.inl rfl))))), ht.stable hu fun k hk => ?_, hl, hdis⟩, hO⟩
  rcases hk with rfl | hk
  · exact hd _ ((hO _).2 (.inr (.inr (.inr (.inl rfl)))))
  · exact hd k ((hO k).2 (.inr (.inr (.inr (.inr hk)))))

theorem PrAny.pcell {pb b tb : Nat} {s : PS} {w : World} {O : Nat → Prop} (h : PrAny pb b tb s w O) : PCell pb w (wvOf s.kp pb b) (.pointer (some ⟨tb, 0, none⟩)) (cvOf s.kp b) s := by
  obtain ⟨g, G, h, hO⟩ := h
  exact h.cell
theorem PrAny.own {pb b tb : Nat} {s : PS} {w : World} {O : Nat → Prop} (h : PrAny pb b tb s w O) : O pb := by
  obtain ⟨g, G, h, hO⟩ := h
  exact (hO pb).2 (.inl rfl)

/-- .. refused. -/
theorem pe_Print_no {S : Sink} {pb b tb : Nat} {s : PS} {w : World} {O : Nat → Prop} (h : PrAny pb b tb s w O) (hm : (s.mi && s.si) = true) (nd : Value) :
    Calls Tryz.prog 12 #[.pointer (some ⟨pb, 0, none⟩), .iface S.ty (.pointer (some S.ptr)), nd] w fun e w' => (∃ t v, e = .returned (.iface t v)) ∧ ∃ s', PrAny pb b tb s' w' O ∧ s.Same s' ∧ Upd O w w' := by
  obtain ⟨g, G, h, hO⟩ := h
  rw [Bool.and_eq_true] at hm
  refine (pe_Print_refuses h hm.1 hm.2 nd).mono ?_
  rintro e w' ⟨he, h', hu⟩
  exact ⟨he, s.rst, ⟨g, G, h', hO⟩, ⟨rfl, rfl, rfl, rfl, rfl, rfl, rfl, rfl, rfl, Nat.zero_le _⟩, hu.mono fun k hk => (hO k).2 (.inl hk)⟩
end Go.Proofs.YtmdkpihlhdjjaaaGreatFmt

namespace Go.Proofs.YtmdkpihlhdjjaaaGreatFmt
open Go.RowKit

theorem PrAny.chg {pb b tb : Nat} {s s' : PS} {w w' : World} {O : Nat → Prop} (h : PrAny pb b tb s w O) (hu : Upd (fun k => k = pb) w w') (hc : PCell pb w' (wvOf s'.kp pb b) (.pointer (some ⟨tb, 0, none⟩)) (cvOf s'.kp b) s') (hl : s'.lin ≤ s'.lic) : PrAny pb b tb s' w' O := by
  obtain ⟨g, G, ⟨_, hb, ht, _, hdis⟩, hO⟩ := h
  refine ⟨g, G, ⟨hc, hb.stable hu (fun e => hdis.1 e.symm) (fun e => hdis.2.1 e.symm), ht.stable hu fun k hk e => ?_, hl, hdis⟩, hO⟩
  subst e
  rcases hk with hk | hk
  · exact hdis.2.2.1 hk
  · exact hdis.2.2.2.2.2.1 hk

theorem PrAny.lin {pb b tb : Nat} {s : PS} {w : World} {O : Nat → Prop} (h : PrAny pb b tb s w O) : s.lin ≤ s.lic := by
  obtain ⟨g, G, h, _⟩ := h
  exact h.lin

/-- What an option makes of the state. -/
def optKp (v : Bool) (s : PS) : PS := if v then { s with kp := true } else if s.kp then { s with kp := false, cc := 0, cl := false } else s
def optMi (v : Bool) (s : PS) : PS := { s with mi := v }
def optSi (v : Bool) (s : PS) : PS := { s with si := v }
def optFn (v : Bool) (s : PS) : PS := { s with fnl := v }

/-- An option's closure: what calling it does. -/
def OptLaw (f : FuncId) (box : Nat) (cell : Value) (T : PS → PS) : Prop :=
  ∀ {pb b tb : Nat} {s : PS} {w : World} {O : Nat → Prop}, PrAny pb b tb s w O → w.cell? ⟨box, 0, none⟩ = some cell → ¬ O box →
    Calls Tryz.prog f #[.pointer (some ⟨pb, 0, none⟩), .pointer (some ⟨box, 0, none⟩)] w fun e w' => e = .returned (.tuple #[]) ∧ PrAny pb b tb (T s) w' O ∧ Upd (fun k => k = pb) w w'

set_option maxRecDepth 100000 in
set_option maxHeartbeats 1000000 in
theorem mi_opt (box : Nat) (v : Bool) : OptLaw 32 box (.bool v) (optMi v) := by
  intro pb b tb s w O h hb hO
  have hp := h.pcell
  have c10 : w.cell? ⟨pb, 10, none⟩ = some (.bool s.mi) := hp.at 10
  have f10 := hp.fr 10
  have HA := Lib.hid h
  clear h hp
  go_enter Tryz.func32, Tryz.ntmps32
  go_wp2
  go_end0
  have hu : Upd (fun k => k = pb) w (w.setCell ⟨pb, 10, none⟩ (.bool v)) := (Upd.refl (fun k => k = pb) w).setCell (p := ⟨pb, 10, none⟩) (.inl rfl) _
  exact ⟨rfl, HA.out.chg (s' := optMi v s) hu (HA.out.pcell.set rfl) HA.out.lin, hu⟩

set_option maxRecDepth 100000 in
set_option maxHeartbeats 1000000 in
theorem si_opt (box : Nat) (v : Bool) : OptLaw 33 box (.bool v) (optSi v) := by
  intro pb b tb s w O h hb hO
  have hp := h.pcell
  have c11 : w.cell? ⟨pb, 11, none⟩ = some (.bool s.si) := hp.at 11
  have f11 := hp.fr 11
  have HA := Lib.hid h
  clear h hp
  go_enter Tryz.func33, Tryz.ntmps33
  go_wp2
  go_end0
  have hu : Upd (fun k => k = pb) w (w.setCell ⟨pb, 11, none⟩ (.bool v)) := (Upd.refl (fun k => k = pb) w).setCell (p := ⟨pb, 11, none⟩) (.inl rfl) _
  exact ⟨rfl, HA.out.chg (s' := optSi v s) hu (HA.out.pcell.set rfl) HA.out.lin, hu⟩

set_option maxRecDepth 100000 in
set_option maxHeartbeats 2000000 in
theorem kp_opt (box : Nat) (v : Bool) : OptLaw 159 box (.bool v) (optKp v) := by
  intro pb b tb s w O h hb hO
  have hp := h.pcell
  have f0 := hp.fr 0; have f2 := hp.fr 2; have f3 := hp.fr 3; have f4 := hp.fr 4; have f9 := hp.fr 9
  have c3 : w.cell? ⟨pb, 3, none⟩ = some (.int .i64 s.cc) := hp.at 3
  have c4 : w.cell? ⟨pb, 4, none⟩ = some (.bool s.cl) := hp.at 4
  have hbp : ¬ box = pb := fun e => hO (e ▸ h.own)
  have hpb' : ¬ pb = box := fun e => hbp e.symm
  have HA := Lib.hid h
  have hta : ∀ w, (Instr.typeAssert (.iface 71 (.pointer (some ⟨b, 0, none⟩))) 84 71 false).run Tryz.prog w = .ok (.pointer (some ⟨b, 0, none⟩)) w := fun w => by kernel_rfl
  cases hkp : s.kp
  · have c0 : w.cell? ⟨pb, 0, none⟩ = some (.iface 71 (.pointer (some ⟨b, 0, none⟩))) := by have h := hp.at 0; rw [h, hkp]; rfl
    have c2 : w.cell? ⟨pb, 2, none⟩ = some (.pointer none) := by have h := hp.at 2; rw [h, hkp]; rfl
    have c9 : w.cell? ⟨pb, 9, none⟩ = some (.bool false) := by have h := hp.at 9; rw [h, ← hkp]; rfl
    clear h hp
    cases v
    · go_enter Tryz.func159, Tryz.ntmps159
      go_wp2
      go_end0
      exact ⟨rfl, by simpa [optKp, hkp] using HA.out, Upd.refl _ w⟩
    · go_enter Tryz.func159, Tryz.ntmps159
      go_wp2
      go_end0
      have hu : Upd (fun k => k = pb) w (((w.setCell ⟨pb, 9, none⟩ (.bool true)).setCell ⟨pb, 2, none⟩ (.pointer (some ⟨b, 0, none⟩))).setCell ⟨pb, 0, none⟩ (.iface 281 (.pointer (some ⟨pb, 2, none⟩)))) :=
        Upd.setCell (F := fun k => k = pb) (Upd.setCell (F := fun k => k = pb) (Upd.setCell (F := fun k => k = pb) (Upd.refl _ w) (by exact .inl rfl) _) (by exact .inl rfl) _) (by exact .inl rfl) _
      refine ⟨rfl, HA.out.chg (s' := optKp true s) hu ?_ HA.out.lin, hu⟩
      refine (heap_setCell_at _ (heap_setCell_at _ (heap_setCell_at _ HA.out.pcell))).trans ?_
      simp [PS.cells, optKp, wvOf, cvOf]
  · have c0 : w.cell? ⟨pb, 0, none⟩ = some (.iface 281 (.pointer (some ⟨pb, 2, none⟩))) := by have h := hp.at 0; rw [h, hkp]; rfl
    have c2 : w.cell? ⟨pb, 2, none⟩ = some (.pointer (some ⟨b, 0, none⟩)) := by have h := hp.at 2; rw [h, hkp]; rfl
    have c9 : w.cell? ⟨pb, 9, none⟩ = some (.bool true) := by have h := hp.at 9; rw [h, ← hkp]; rfl
    clear h hp
    cases v
    · go_enter Tryz.func159, Tryz.ntmps159
      go_wp2
      go_end0
      have hu : Upd (fun k => k = pb) w (((((w.setCell ⟨pb, 9, none⟩ (.bool false)).setCell ⟨pb, 0, none⟩ (.iface 71 (.pointer (some ⟨b, 0, none⟩)))).setCell ⟨pb, 2, none⟩ (.pointer none)).setCell ⟨pb, 3, none⟩ (.int .i64 0)).setCell ⟨pb, 4, none⟩ (.bool false)) :=
        Upd.setCell (F := fun k => k = pb) (Upd.setCell (F := fun k => k = pb) (Upd.setCell (F := fun k => k = pb) (Upd.setCell (F := fun k => k = pb) (Upd.setCell (F := fun k => k = pb) (Upd.refl _ w) (by exact .inl rfl) _) (by exact .inl rfl) _) (by exact .inl rfl) _) (by exact .inl rfl) _) (by exact .inl rfl) _
      have hk' : (optKp false s).kp = false := by simp [optKp, hkp]
      refine ⟨rfl, HA.out.chg (s' := optKp false s) hu ?_ (by simpa [optKp, hkp] using HA.out.lin), hu⟩
      refine (heap_setCell_at _ (heap_setCell_at _ (heap_setCell_at _ (heap_setCell_at _ (heap_setCell_at _ HA.out.pcell))))).trans ?_
      simp [PS.cells, optKp, hkp, wvOf, cvOf]
    · go_enter Tryz.func159, Tryz.ntmps159
      go_wp2
      go_end0
      have he : optKp true s = s := by
        cases s
        simp only at hkp
        subst hkp
        rfl
      exact ⟨rfl, by rw [he]; exact HA.out, Upd.refl _ w⟩
end Go.Proofs.YtmdkpihlhdjjaaaGreatFmt
