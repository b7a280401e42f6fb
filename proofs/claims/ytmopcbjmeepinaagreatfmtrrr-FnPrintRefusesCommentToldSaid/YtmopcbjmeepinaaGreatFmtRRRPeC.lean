/-
  The two kinds of writer that a Printer has: what Reset and WriteByte of a line feed make of it; newline.
-/
import Derived.Test.YtmopcbjmeepinaaGreatFmtRRRPeB
namespace Go.Proofs.YtmopcbjmeepinaaGreatFmtRRR
open Go.RowKit

/-- The Printer with its bufio.Writer (over the sink T) apart from it. -/
def PSt (T : Sink) (pb b g : Nat) (wv tv cv : Value) (w : World) (Fs : Nat → Prop) (inner pend : List UInt8) (s : PS) : Prop :=
  PCell pb w wv tv cv s ∧ BufPg T b g w Fs inner pend ∧ ¬ Fs pb ∧ pb ≠ b ∧ pb ≠ g

/-- What a call leaves of it: the column counter may have counted. -/
def PPost (T : Sink) (pb b g : Nat) (wv tv cv : Value) (w : World) (Fs : Nat → Prop) (inner pend : List UInt8) (s : PS) (w' : World) : Prop :=
  ∃ cc cl, PSt T pb b g wv tv cv w' Fs inner pend { s with cc := cc, cl := cl } ∧ Upd (fun k => k = pb ∨ k = b ∨ k = g) w w'

theorem BufPg.stable {P : Program} {fuel : Nat} {T : Sink} (hs : T.Law P fuel) {b g : Nat} {w w' : World} {F Fs : Nat → Prop} {inner pend : List UInt8} (h : BufPg T b g w Fs inner pend) (hu : Upd F w w') (hb : ¬ F b) (hg : ¬ F g) (hd : ∀ k, Fs k → ¬ F k) : BufPg T b g w' Fs inner pend := by
  obtain ⟨cur, h1, h2, h3, h4, h5, h6, h7, h8⟩ := h
  exact ⟨cur, hu.heap h1 hb, hu.heap h2 hg, h3, h4, h5, h6, hs.stable h7 hu hd, h8⟩

theorem BufPg.bufP {T : Sink} {b g : Nat} {w : World} {Fs : Nat → Prop} {inner pend : List UInt8} (h : BufPg T b g w Fs inner pend) : BufP T b w (fun k => k = b ∨ k = g ∨ Fs k) inner pend := by
  obtain ⟨cur, h1, h2, h3, h4, h5, h6, h7, h8, h9, h10⟩ := h
  exact ⟨g, cur, Fs, h1, h2, h3, h4, h5, h6, h7, h8, h9, h10, fun k => Iff.rfl⟩

theorem BufPg.raw {T : Sink} {b g : Nat} {w : World} {Fs : Nat → Prop} {inner pend : List UInt8} (h : BufPg T b g w Fs inner pend) : BufRaw b g w := by
  obtain ⟨cur, h1, h2, h3, h4, h5, h6, h7, h8, h9, h10⟩ := h
  exact ⟨_, _, _, cur, h1, h2, h3, h8⟩

set_option maxRecDepth 100000 in
set_option maxHeartbeats 1000000 in
/-- WriteByte into an empty buffer. -/
theorem bw_wb0 {T : Sink} (hs : T.Law Tryz.prog 548) {b g : Nat} {w : World} {Fs : Nat → Prop} (h : BufPg T b g w Fs [] []) (hk : T.okb 10 = true) :
    Calls Tryz.prog 271 #[.pointer (some ⟨b, 0, none⟩), .int .u8 10] w fun e w' => e = .returned .nilIface ∧ BufPg T b g w' Fs [] [10] ∧ Upd (fun k => k = b ∨ k = g) w w' := by
  obtain ⟨cur, hb, hg, hsz, hn, htk, hok, hI, hbg, hFb, hFg⟩ := h
  have hc0 : w.cell? ⟨b, 0, none⟩ = some .nilIface := cell_at hb 0
  have hc1 : w.cell? ⟨b, 1, none⟩ = some (.slice (some ⟨g, 0, none⟩) 4096 4096) := cell_at hb 1
  have hc2 : w.cell? ⟨b, 2, none⟩ = some (.int .i64 0) := cell_at hb 2
  have hfb : w.frozen? ⟨b, 2, none⟩ = false := frozen_at hb 2
  have hfg : w.frozen? ⟨g, 0, none⟩ = false := frozen_at hg _
  have hcg : w.cell? ⟨g, 0, none⟩ = some (cur[0]'(by omega)) := by rw [cell_at hg, Array.getElem?_eq_getElem]
  have hbg' : ¬ g = b := fun e => hbg e.symm
  have hend : ∀ k1, BufPg T b g (((w.drewN k1).setCell ⟨g, 0, none⟩ (.int .u8 10)).setCell ⟨b, 2, none⟩ (.int .i64 1)) Fs [] [10] ∧ Upd (fun k => k = b ∨ k = g) w (((w.drewN k1).setCell ⟨g, 0, none⟩ (.int .u8 10)).setCell ⟨b, 2, none⟩ (.int .i64 1)) := fun k1 => by
    have hu0 : Upd (fun k => k = b ∨ k = g) w (((w.drewN k1).setCell ⟨g, 0, none⟩ (.int .u8 10)).setCell ⟨b, 2, none⟩ (.int .i64 1)) :=
      (((Upd.refl _ w).drewN k1).setCell (.inl (.inr rfl)) _).setCell (.inl (.inl rfl)) _
    have hb1 : ((w.drewN k1).setCell ⟨g, 0, none⟩ (.int .u8 10)).heap[b]? = some _ := (Below.heap_setCell _ _ _ _ hbg).trans hb
    refine ⟨⟨cur.setIfInBounds 0 (B8 10), ?_, ?_, by simpa using hsz, by simp, ?_, fun c hc => by rw [List.mem_singleton.1 hc]; exact hk, hs.stable hI hu0 fun k hk e => by rcases e with rfl | rfl; exact hFb hk; exact hFg hk, hbg, hFb, hFg⟩, hu0⟩
    · refine (heap_setCell_at _ hb1).trans ?_
      simp
    · exact (Below.heap_setCell _ _ _ _ hbg').trans (heap_setCell_at _ hg)
    · exact take_set_snoc (l := []) (by simp) (by simp; omega)
  have HEnd := Lib.hid hend
  clear hend hb hg hn htk hok hI hFb hFg
  go_enter Tryz.func271, Tryz.ntmps271
  go_wp2_with (go_at_call 267; refine (avail_any b g _ _ ?_ ?_ hc1 hc2).mono ?_; omega; omega; rintro e w1 ⟨rfl, k1, rfl⟩)
  go_region
  go_wp2
  go_ret
  exact ⟨rfl, HEnd.out _⟩

/-- The plain writer's WriteByte of a line feed. -/
theorem bw_wbP {T : Sink} (hs : T.Law Tryz.prog 548) {pb b g : Nat} {w : World} {wv tv cv : Value} {Fs : Nat → Prop} {s : PS} (h : PSt T pb b g wv tv cv w Fs [] [] s) (hk : T.okb 10 = true) :
    Calls Tryz.prog 271 #[.pointer (some ⟨b, 0, none⟩), .int .u8 10] w fun e w' => e = .returned .nilIface ∧ PPost T pb b g wv tv cv w Fs [] [10] s w' := by
  obtain ⟨hp, hB, hFp, hpb, hpg⟩ := h
  refine (bw_wb0 hs hB hk).mono ?_
  rintro e w2 ⟨rfl, hB2, hu2⟩
  exact ⟨rfl, s.cc, s.cl, ⟨hp.keep hu2 (fun e => e.elim hpb hpg), hB2, hFp, hpb, hpg⟩, hu2.mono fun k hk => .inr hk⟩

theorem bw_rsP {T : Sink} (hs : T.Law Tryz.prog 548) (hne : T.NeBW Tryz.prog) {pb b g : Nat} {w : World} {wv tv cv : Value} {Fs : Nat → Prop} {s : PS} (hp : PCell pb w wv tv cv s) (hr : BufRaw b g w) (hI : T.I w Fs []) (hFp : ¬ Fs pb) (hFb : ¬ Fs b) (hFg : ¬ Fs g) (hpb : pb ≠ b) (hpg : pb ≠ g) :
    Calls Tryz.prog 269 #[.pointer (some ⟨b, 0, none⟩), .iface T.ty (.pointer (some T.ptr))] w fun e w' => e = .returned (.tuple #[]) ∧ PPost T pb b g wv tv cv w Fs [] [] s w' := by
  refine (bw_reset hs hne hr hI hFb hFg).mono ?_
  rintro e w2 ⟨rfl, hB2, hu2⟩
  exact ⟨rfl, s.cc, s.cl, ⟨hp.keep hu2 (fun e => hpb e), hB2, hFp, hpb, hpg⟩, hu2.mono fun k hk => .inr (.inl hk)⟩
end Go.Proofs.YtmopcbjmeepinaaGreatFmtRRR
