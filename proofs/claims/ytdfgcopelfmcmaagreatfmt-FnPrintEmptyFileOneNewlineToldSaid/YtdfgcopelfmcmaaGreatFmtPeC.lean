/-
  The two kinds of writer that a Printer has: what Reset and WriteByte of a line feed make of it; newline.
-/
import Derived.Test.YtdfgcopelfmcmaaGreatFmtPeB
namespace Go.Proofs.YtdfgcopelfmcmaaGreatFmt
open Go.RowKit

/-- The Printer with its bufio.Writer (over the sink T) apart from it. -/
def PSt (T : Sink) (pb b g : Nat) (wv tv cv : Value) (w : World) (Fs : Nat → Prop) (inner pend : List UInt8) (s : PS) : Prop :=
  PCell pb w wv tv cv s ∧ BufPg T b g w Fs inner pend ∧ ¬ Fs pb ∧ pb ≠ b ∧ pb ≠ g

/-- What a call leaves of it: the column counter may have counted. -/
def PPost (T : Sink) (pb b g : Nat) (wv tv cv : Value) (w : World) (Fs : Nat → Prop) (inner pend : List UInt8) (s : PS) (w' : World) : Prop :=
  ∃ cc cl, PSt T pb b g wv tv cv w' Fs inner pend { s with cc := cc, cl := cl } ∧ Upd (fun k => k = pb ∨ k = b ∨ k = g) w w'

theorem BufPg.stable {P : Program} {fuel : Nat} {T : Sink} (hs : T.Law P fuel) {b g : Nat} {w w' : World} {F Fs : Nat → Prop} {inner pend : List UInt8} (h : BufPg T b g w Fs inner pend) (hu : Upd F w w') (hb : ¬ F b) (hg : ¬ F g) (hd : ∀ k, Fs k → ¬ F k) : BufPg T b g w' Fs inner pend := by
  obtain ⟨cur, h1, h2, h3, h4, h5, h6, h7, h8⟩ := h
  exact ⟨cur, hu.heap h1 hb, hu.heap h2 hg, h3, h4, h5, h6, hs.stable h7 hu hd, h8⟩

theorem BufPg.bufP {T : Sink} {b g : Nat} {w : World} {Fs : Nat → Prop} {inner pend : List UInt8} (h : BufPg T b g w Fs inner pend) : BufP T b w (fun k => k = b ∨ k = g ∨ Fs k) inner pend := by
  obtain ⟨cur, h1, h2, h3, h4, h5, h6, h7, h8, h9, h10⟩ := h
  exact ⟨g, cur, Fs, h1, h2, h3, h4, h5, h6, h7, h8, h9, h10, fun k => Iff.rfl⟩

theorem BufPg.raw {T : Sink} {b g : Nat} {w : World} {Fs : Nat → Prop} {inner pend : List UInt8} (h : BufPg T b g w Fs inner pend) : BufRaw b g w := by
  obtain ⟨cur, h1, h2, h3, h4, h5, h6, h7, h8, h9, h10⟩ := h
  exact ⟨_, _, _, cur, h1, h2, h3, h8⟩

set_option maxRecDepth 100000 in
set_option maxHeartbeats 1000000 in
/-- WriteByte into an empty buffer. -/
theorem bw_wb0 {T : Sink} (hs : T.Law Tryz.prog 542) {b g : Nat} {w : World} {Fs : Nat → Prop} (h : BufPg T b g w Fs [] []) (hk : T.okb 10 = true) :
    Calls Tryz.prog 243 #[.pointer (some ⟨b, 0, none⟩), .int .u8 10] w fun e w' => e = .returned .nilIface ∧ BufPg T b g w' Fs [] [10] ∧ Upd (fun k => k = b ∨ k = g) w w' := by
  obtain ⟨cur, hb, hg, hsz, hn, htk, hok, hI, hbg, hFb, hFg⟩ := h
  have hc0 : w.cell? ⟨b, 0, none⟩ = some .nilIface := cell_at hb 0
  have hc1 : w.cell? ⟨b, 1, none⟩ = some (.slice (some ⟨g, 0, none⟩) 4096 4096) := cell_at hb 1
  have hc2 : w.cell? ⟨b, 2, none⟩ = some (.int .i64 0) := cell_at hb 2
  have hfb : w.frozen? ⟨b, 2, none⟩ = false := frozen_at hb 2
  have hfg : w.frozen? ⟨g, 0, none⟩ = false := frozen_at hg _
  have hcg : w.cell? ⟨g, 0, none⟩ = some (cur[0]'(by omega)) := by rw [cell_at hg, Array.getElem?_eq_getElem]
  have hbg' : ¬ g = b := fun e => hbg e.symm
  have hend : ∀ k1, BufPg T b g (((w.drewN k1).setCell ⟨g, 0, none⟩ (.int .u8 10)).setCell ⟨b, 2, none⟩ (.int .i64 1)) Fs [] [10] ∧ Upd (fun k => k = b ∨ k = g) w (((w.drewN k1).setCell ⟨g, 0, none⟩ (.int .u8 10)).setCell ⟨b, 2, none⟩ (.int .i64 1)) := fun k1 => by
    have hu0 : Upd (fun k => k = b ∨ k = g) w (((w.drewN k1).setCell ⟨g, 0, none⟩ (.int .u8 10)).setCell ⟨b, 2, none⟩ (.int .i64 1)) :=
      (((Upd.refl _ w).drewN k1).setCell (.inl (.inr rfl)) _).setCell (.inl (.inl rfl)) _
    have hb1 : ((w.drewN k1).setCell ⟨g, 0, none⟩ (.int .u8 10)).heap[b]? = some _ := (Below.heap_setCell _ _ _ _ hbg).trans hb
    refine ⟨⟨cur.setIfInBounds 0 (B8 10), ?_, ?_, by simpa using hsz, by simp, ?_, fun c hc => by rw [List.mem_singleton.1 hc]; exact hk, hs.stable hI hu0 fun k hk e => by rcases e with rfl | rfl; exact hFb hk; exact hFg hk, hbg, hFb, hFg⟩, hu0⟩
    · refine (heap_setCell_at _ hb1).trans ?_
      simp
    · exact (Below.heap_setCell _ _ _ _ hbg').trans (heap_setCell_at _ hg)
    · exact take_set_snoc (l := []) (by simp) (by simp; omega)
  have HEnd := Lib.hid hend
  clear hend hb hg hn htk hok hI hFb hFg
  go_enter Tryz.func243, Tryz.ntmps243
  go_wp2_with (go_at_call 239; refine (avail_any b g _ _ ?_ ?_ hc1 hc2).mono ?_; omega; omega; rintro e w1 ⟨rfl, k1, rfl⟩)
  go_region
  go_wp2
  go_ret
  exact ⟨rfl, HEnd.out _⟩

set_option maxRecDepth 100000 in
set_option maxHeartbeats 1000000 in
theorem cc_addByte10 {pb : Nat} {w : World} {wv tv cv : Value} {s : PS} (h : PCell pb w wv tv cv s) :
    Calls Tryz.prog 250 #[.pointer (some ⟨pb, 2, none⟩), .int .u8 10] w fun e w' => e = .returned (.tuple #[]) ∧ PCell pb w' wv tv cv { s with cc := 1, cl := true } ∧ Upd (fun k => k = pb) w w' := by
  have c3 : w.cell? ⟨pb, 3, none⟩ = some (.int .i64 s.cc) := h.at 3
  have c4 : w.cell? ⟨pb, 4, none⟩ = some (.bool s.cl) := h.at 4
  have f3 := h.fr 3
  have f4 := h.fr 4
  have HA := Lib.hid h
  clear h
  go_enter Tryz.func250, Tryz.ntmps250
  go_wp2
  go_end0
  refine ⟨rfl, ?_, ?_⟩
  · refine (heap_setCell_at _ (heap_setCell_at _ (heap_setCell_at _ HA.out))).trans ?_
    simp [PS.cells]
  · exact Upd.setCell (F := fun k => k = pb) (Upd.setCell (F := fun k => k = pb) (Upd.setCell (F := fun k => k = pb) (Upd.refl _ w) (by exact .inl rfl) _) (by exact .inl rfl) _) (by exact .inl rfl) _

set_option maxRecDepth 100000 in
set_option maxHeartbeats 1000000 in
/-- The column counter's WriteByte of a line feed. -/
theorem cc_wb0 {T : Sink} (hs : T.Law Tryz.prog 542) {pb b g : Nat} {w : World} {wv tv : Value} {Fs : Nat → Prop} {s : PS} (h : PSt T pb b g wv tv (.pointer (some ⟨b, 0, none⟩)) w Fs [] [] s) (hk : T.okb 10 = true) :
    Calls Tryz.prog 248 #[.pointer (some ⟨pb, 2, none⟩), .int .u8 10] w fun e w' => e = .returned .nilIface ∧ PPost T pb b g wv tv (.pointer (some ⟨b, 0, none⟩)) w Fs [] [10] s w' := by
  obtain ⟨hp, hB, hFp, hpb, hpg⟩ := h
  obtain ⟨Q, HQ, HC⟩ := callsVar (cc_addByte10 hp)
  have HB := Lib.hid hB
  have HN := Lib.hid (And.intro hFp (And.intro hpb hpg))
  clear hp hB hFp hpb hpg
  go_enter Tryz.func248, Tryz.ntmps248
  go_wp2_with (go_at_call 250; refine HC.out.mono ?_)
  rintro e w1 hq
  obtain ⟨rfl, hp1, hu1⟩ := HQ.out e w1 hq
  clear hq
  have c2 : w1.cell? ⟨pb, 2, none⟩ = some (.pointer (some ⟨b, 0, none⟩)) := hp1.at 2
  have hB1 := HB.out.stable hs hu1 (fun e => HN.out.2.1 e.symm) (fun e => HN.out.2.2 e.symm) fun k hk e => HN.out.1 (e ▸ hk)
  obtain ⟨Q2, HQ2, HC2⟩ := callsVar (bw_wb0 hs hB1 hk)
  have HP1 := Lib.hid hp1
  have HU1 := Lib.hid hu1
  clear hp1 hu1 hB1
  go_wp2_with (go_at_call 243; refine HC2.out.mono ?_)
  rintro e w2 hq
  obtain ⟨rfl, hB2, hu2⟩ := HQ2.out e w2 hq
  clear hq
  have HEnd : RowKit.Hid (PPost T pb b g wv tv (.pointer (some ⟨b, 0, none⟩)) w Fs [] [10] s w2) :=
    ⟨1, true, ⟨HP1.out.keep hu2 (fun e => e.elim HN.out.2.1 HN.out.2.2), hB2, HN.out.1, HN.out.2.1, HN.out.2.2⟩, (HU1.out.mono fun k hk => .inl hk).trans (hu2.mono fun k hk => .inr hk)⟩
  clear hB2 hu2
  go_wp2
  go_ret
  exact ⟨rfl, HEnd.out⟩

/-- The plain writer's WriteByte of a line feed. -/
theorem bw_wbP {T : Sink} (hs : T.Law Tryz.prog 542) {pb b g : Nat} {w : World} {wv tv cv : Value} {Fs : Nat → Prop} {s : PS} (h : PSt T pb b g wv tv cv w Fs [] [] s) (hk : T.okb 10 = true) :
    Calls Tryz.prog 243 #[.pointer (some ⟨b, 0, none⟩), .int .u8 10] w fun e w' => e = .returned .nilIface ∧ PPost T pb b g wv tv cv w Fs [] [10] s w' := by
  obtain ⟨hp, hB, hFp, hpb, hpg⟩ := h
  refine (bw_wb0 hs hB hk).mono ?_
  rintro e w2 ⟨rfl, hB2, hu2⟩
  exact ⟨rfl, s.cc, s.cl, ⟨hp.keep hu2 (fun e => e.elim hpb hpg), hB2, hFp, hpb, hpg⟩, hu2.mono fun k hk => .inr hk⟩

set_option maxRecDepth 100000 in
set_option maxHeartbeats 1000000 in
/-- The column counter's Reset. -/
theorem cc_rs {T : Sink} (hs : T.Law Tryz.prog 542) (hne : T.NeBW Tryz.prog) {pb b g : Nat} {w : World} {wv tv : Value} {Fs : Nat → Prop} {s : PS} (hp : PCell pb w wv tv (.pointer (some ⟨b, 0, none⟩)) s) (hr : BufRaw b g w) (hI : T.I w Fs []) (hFp : ¬ Fs pb) (hFb : ¬ Fs b) (hFg : ¬ Fs g) (hpb : pb ≠ b) (hpg : pb ≠ g) :
    Calls Tryz.prog 246 #[.pointer (some ⟨pb, 2, none⟩), .iface T.ty (.pointer (some T.ptr))] w fun e w' => e = .returned (.tuple #[]) ∧ PPost T pb b g wv tv (.pointer (some ⟨b, 0, none⟩)) w Fs [] [] s w' := by
  have c2 : w.cell? ⟨pb, 2, none⟩ = some (.pointer (some ⟨b, 0, none⟩)) := hp.at 2
  have c3 : w.cell? ⟨pb, 3, none⟩ = some (.int .i64 s.cc) := hp.at 3
  have c4 : w.cell? ⟨pb, 4, none⟩ = some (.bool s.cl) := hp.at 4
  have f3 := hp.fr 3
  have f4 := hp.fr 4
  have hu : Upd (fun k => k = pb) w ((w.setCell ⟨pb, 3, none⟩ (.int .i64 1)).setCell ⟨pb, 4, none⟩ (.bool true)) :=
    Upd.setCell (F := fun k => k = pb) (Upd.setCell (F := fun k => k = pb) (Upd.refl _ w) (by exact .inl rfl) _) (by exact .inl rfl) _
  have hp1 : PCell pb ((w.setCell ⟨pb, 3, none⟩ (.int .i64 1)).setCell ⟨pb, 4, none⟩ (.bool true)) wv tv (.pointer (some ⟨b, 0, none⟩)) { s with cc := 1, cl := true } := by
    refine (heap_setCell_at _ (heap_setCell_at _ hp)).trans ?_
    simp [PS.cells]
  obtain ⟨Q, HQ, HC⟩ := callsVar (bw_reset hs hne (hr.stable hu (fun e => hpb e.symm) (fun e => hpg e.symm)) (hs.stable hI hu fun k hk e => hFp (e ▸ hk)) hFb hFg)
  have HN := Lib.hid (And.intro hFp (And.intro hpb hpg))
  have HP1 := Lib.hid hp1
  have HU := Lib.hid hu
  clear hp hr hI hFp hFb hFg hpb hpg hu hp1
  go_enter Tryz.func246, Tryz.ntmps246
  go_wp2_with (go_at_call 241; refine HC.out.mono ?_)
  rintro e w2 hq
  obtain ⟨rfl, hB2, hu2⟩ := HQ.out e w2 hq
  clear hq
  have HEnd : RowKit.Hid (PPost T pb b g wv tv (.pointer (some ⟨b, 0, none⟩)) w Fs [] [] s w2) :=
    ⟨1, true, ⟨HP1.out.keep hu2 (fun e => HN.out.2.1 e), hB2, HN.out.1, HN.out.2.1, HN.out.2.2⟩, (HU.out.mono fun k hk => .inl hk).trans (hu2.mono fun k hk => .inr (.inl hk))⟩
  clear hB2 hu2
  go_wp2
  go_end0
  exact ⟨rfl, HEnd.out⟩

theorem bw_rsP {T : Sink} (hs : T.Law Tryz.prog 542) (hne : T.NeBW Tryz.prog) {pb b g : Nat} {w : World} {wv tv cv : Value} {Fs : Nat → Prop} {s : PS} (hp : PCell pb w wv tv cv s) (hr : BufRaw b g w) (hI : T.I w Fs []) (hFp : ¬ Fs pb) (hFb : ¬ Fs b) (hFg : ¬ Fs g) (hpb : pb ≠ b) (hpg : pb ≠ g) :
    Calls Tryz.prog 241 #[.pointer (some ⟨b, 0, none⟩), .iface T.ty (.pointer (some T.ptr))] w fun e w' => e = .returned (.tuple #[]) ∧ PPost T pb b g wv tv cv w Fs [] [] s w' := by
  refine (bw_reset hs hne hr hI hFb hFg).mono ?_
  rintro e w2 ⟨rfl, hB2, hu2⟩
  exact ⟨rfl, s.cc, s.cl, ⟨hp.keep hu2 (fun e => hpb e), hB2, hFp, hpb, hpg⟩, hu2.mono fun k hk => .inr (.inl hk)⟩
end Go.Proofs.YtdfgcopelfmcmaaGreatFmt
