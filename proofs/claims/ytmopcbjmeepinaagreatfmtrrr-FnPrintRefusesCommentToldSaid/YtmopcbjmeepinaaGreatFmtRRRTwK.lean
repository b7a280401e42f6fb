/-
  tabwriter.Writer: flushNoDefers.
-/
import Derived.Test.YtmopcbjmeepinaaGreatFmtRRRTwI
import Derived.Test.YtmopcbjmeepinaaGreatFmtRRRTwJ
import Derived.Test.YtmopcbjmeepinaaGreatFmtRRRTwD
namespace Go.Proofs.YtmopcbjmeepinaaGreatFmtRRR
open Go.RowKit

/-- The Writer between two writes: t has been written since the last line feed. -/
def TwIdle (S : Sink) (tb : Nat) (w : World) (H : Nat → Prop) (inner t : List UInt8) (twd fg : Nat) : Prop :=
  ∃ G Fs, TwAt S tb w G Fs inner t twd fg 0 t.length 0 false 1 [] ∧ ∀ k, H k ↔ k = tb ∨ G k ∨ Fs k

/-- What a call leaves that writes out. -/
def TwDone (S : Sink) (tb : Nat) (H : Nat → Prop) (inner t : List UInt8) (twd fg : Nat) (w w' : World) : Prop :=
  ∃ H', TwIdle S tb w' H' inner t twd fg ∧ (∀ k, H' k → H k ∨ w.heap.size ≤ k) ∧ Upd H w w'

set_option maxRecDepth 100000 in
set_option maxHeartbeats 2000000 in
theorem tw_fnd {S : Sink} (hs : S.Law Tryz.prog 548) {tb : Nat} {w : World} {G Fs : Nat → Prop} {inner t out : List UInt8} {twd fg pos : Nat} {cw : Int} {ht : Bool} {nl : Nat} {c0 : List TCell} {p : Int}
    (h : TwAt S tb w G Fs inner t twd fg pos 0 cw ht nl c0) (hc : c0.length ≤ 1) (hnl : nl = 1 ∨ nl = 2)
    (hwl : Calls Tryz.prog 204 #[.pointer (some ⟨tb, 0, none⟩), .int .i64 0, .int .i64 0, .int .i64 (nl : Int)] w fun e w' => e = .returned (.int .i64 p) ∧ WInv S Fs w inner out w') :
    Calls Tryz.prog 176 #[.pointer (some ⟨tb, 0, none⟩)] w fun e w' => e = .returned (.tuple #[]) ∧ TwDone S tb (fun k => k = tb ∨ G k ∨ Fs k) (inner ++ out) [] twd fg w w' := by
  have h' := h
  obtain ⟨vb, vl, aw, cap, hb, hr, hvb, ⟨L, capL, cur, v0, rfl, hL, _⟩, hI, hFt, hGt, hGF, hGl, hfg⟩ := h
  have c15 : w.cell? ⟨tb, 15, none⟩ = some (.int .i64 0) := cell_at hb 15
  have c19 : w.cell? ⟨tb, 19, none⟩ = some (.slice (some ⟨L, 0, none⟩) nl capL) := cell_at hb 19
  obtain ⟨Q, HQ, HC⟩ := callsVar (tw_format h' hc hnl hwl)
  have HA := Lib.hid h'
  clear hb hr hvb hL hI hFt hGt hGF hGl hfg h' hwl hc hnl
  go_enter Tryz.func176, Tryz.ntmps176
  go_wp2_with (go_at_call 194; refine HC.out.mono ?_)
  rintro e w1 hq
  obtain ⟨rfl, F1, hI1, hF1, hU1⟩ := HQ.out e w1 hq
  clear hq
  obtain ⟨Q2, HQ2, HC2⟩ := callsVar (tw_reset hs (HA.out.wrote hs hI1 hF1 hU1).pre)
  have HF1 := Lib.hid hF1
  have HU1 := Lib.hid hU1
  clear hI1 hF1 hU1
  go_wp2_with (go_at_call 83; refine HC2.out.mono ?_)
  rintro e w2 hq
  obtain ⟨rfl, G2, hA2, hG2, hU2⟩ := HQ2.out e w2 hq
  clear hq
  have HEnd : RowKit.Hid (TwDone S tb (fun k => k = tb ∨ G k ∨ Fs k) (inner ++ out) [] twd fg w w2) := by
    refine ⟨fun k => k = tb ∨ G2 k ∨ F1 k, ⟨G2, F1, hA2, fun k => Iff.rfl⟩, fun k hk => ?_, (HU1.out.mono fun k hk => .inr (.inr hk)).trans (hU2.mono fun k hk => hk.imp id .inl)⟩
    rcases hk with hk | hk | hk
    · exact .inl (.inl hk)
    · rcases hG2 k hk with h | h
      · exact .inl (.inr (.inl h))
      · exact .inr (Nat.le_trans HU1.out.size h)
    · rcases HF1.out k hk with h | h
      · exact .inl (.inr (.inr h))
      · exact .inr h
  clear hA2 hG2 hU2
  go_wp2
  go_end0
  exact ⟨rfl, HEnd.out⟩
end Go.Proofs.YtmopcbjmeepinaaGreatFmtRRR
