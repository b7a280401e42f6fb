/-
  tabwriter.Writer: Flush, whatever text waits; the tabwriter has no WriteString.
-/
import Derived.Test.YtnhmgjgdkcgmfaaGreatFmtTwQ
import Derived.Test.YtnhmgjgdkcgmfaaGreatFmtTwN
import Derived.Test.YtnhmgjgdkcgmfaaGreatFmtBufD
import Derived.Stop.Asserts
namespace Go.Proofs.YtnhmgjgdkcgmfaaGreatFmt
open Go.RowKit

theorem tw_noSW (S : Sink) (tb twd fg : Nat) : (twSink S tb twd fg).NoSW Tryz.prog := fun w => run_typeAssert_lacksB (t := 70) Tryz.underlying410 (by kernel_rfl) (by kernel_rfl) _ _ w

set_option maxRecDepth 100000 in
set_option maxHeartbeats 2000000 in
/-- flushNoDefers where text waits. -/
theorem tw_fnd_text {S : Sink} (hs : S.Law Tryz.prog 531) (hok : ∀ c, S.okb c = true) {tb : Nat} {w : World} {H : Nat → Prop} {inner t : List UInt8} {twd fg : Nat} (h : TwIdle S tb w H inner t twd fg) (hne : t ≠ []) (hl : inner.length + t.length + 1 ≤ LIM) :
    Calls Tryz.prog 139 #[.pointer (some ⟨tb, 0, none⟩)] w fun e w' => e = .returned (.tuple #[]) ∧ TwDone S tb H (inner ++ t) [] twd fg w w' := by
  have hLIM : LIM = 1099511627776 := rfl
  obtain ⟨G, Fs, hA, hH⟩ := h
  have hpos : 0 < t.length := List.length_pos_iff.2 hne
  have hcs : w.cell? ⟨tb, 15, none⟩ = some (.int .i64 (t.length : Int)) ∧ w.cell? ⟨tb, 18, none⟩ = some (.int .u8 0) := by
    obtain ⟨vb, vl, aw, cap, hb, _⟩ := hA
    exact ⟨cell_at hb 15, cell_at hb 18⟩
  obtain ⟨c15, c18⟩ := hcs
  have hposI : (0 : Int) < (t.length : Int) := by omega
  obtain ⟨Q0, HQ0, HC0⟩ := callsVar (tw_terminate hs hA)
  have HH := Lib.hid hH
  clear hA hH
  go_enter Tryz.func139, Tryz.ntmps139
  go_wp2_with (go_at_call 156; refine HC0.out.mono ?_)
  rintro e w1 hq
  obtain ⟨rfl, G1, hA1, hG1, hu1⟩ := HQ0.out e w1 hq
  clear hq
  have h' := hA1
  obtain ⟨vb, vl, aw, cap, hb, hr, hvb, ⟨L, capL, cur, v0, rfl, hL, _⟩, hI, hFt, hGt, hGF, hGl, hfg⟩ := hA1
  have c19 : w1.cell? ⟨tb, 19, none⟩ = some (.slice (some ⟨L, 0, none⟩) 1 capL) := cell_at hb 19
  obtain ⟨Q, HQ, HC⟩ := callsVar (tw_format h' (by simp) (.inl rfl) (tw_wl1n hs hok rfl hne h' hl))
  have HA := Lib.hid h'
  have HG1 := Lib.hid (And.intro hG1 hu1)
  clear hb hr hvb hL hI hFt hGt hGF hGl hfg h' hG1 hu1
  go_wp2_with (go_at_call 157; refine HC.out.mono ?_)
  rintro e w2 hq
  obtain ⟨rfl, F1, hI1, hF1, hU1⟩ := HQ.out e w2 hq
  clear hq
  obtain ⟨Q2, HQ2, HC2⟩ := callsVar (tw_reset hs (HA.out.wrote hs hI1 hF1 hU1).pre)
  have HF1 := Lib.hid hF1
  have HU1 := Lib.hid hU1
  clear hI1 hF1 hU1
  go_wp2_with (go_at_call 46; refine HC2.out.mono ?_)
  rintro e w3 hq
  obtain ⟨rfl, G2, hA2, hG2, hU2⟩ := HQ2.out e w3 hq
  clear hq
  have HEnd : RowKit.Hid (TwDone S tb H (inner ++ t) [] twd fg w w3) := by
    obtain ⟨hG1, hu1⟩ := HG1.out
    have hz1 := hu1.size
    have hz2 := HU1.out.size
    have hg1 : ∀ k, G1 k → H k ∨ w.heap.size ≤ k := fun k hk => (hG1 k hk).imp (fun h => (HH.out k).2 (.inr (.inl h))) id
    have hf1 : ∀ k, Fs k → H k := fun k hk => (HH.out k).2 (.inr (.inr hk))
    have htb : H tb := (HH.out tb).2 (.inl rfl)
    refine ⟨fun k => k = tb ∨ G2 k ∨ F1 k, ⟨G2, F1, hA2, fun k => Iff.rfl⟩, fun k hk => ?_, ?_⟩
    · rcases hk with hk | hk | hk
      · exact .inl (hk ▸ htb)
      · rcases hG2 k hk with h | h
        · exact hg1 k h
        · exact .inr (by omega)
      · rcases HF1.out k hk with h | h
        · exact .inl (hf1 k h)
        · exact .inr (by omega)
    · refine ((hu1.mono (G := H) fun k hk => ?_).trans (HU1.out.mono hf1)).trans' hU2 fun k hk => ?_
      · rcases hk with h | h
        · exact h ▸ htb
        · exact (HH.out k).2 (.inr (.inl h))
      · rcases hk with h | h
        · exact .inl (h ▸ htb)
        · exact hg1 k h
  clear hA2 hG2 hU2
  go_wp2
  go_end0
  exact ⟨rfl, HEnd.out⟩

/-- flushNoDefers, whatever waits. -/
theorem tw_fnd_any {S : Sink} (hs : S.Law Tryz.prog 531) (hok : ∀ c, S.okb c = true) {tb : Nat} {w : World} {H : Nat → Prop} {inner t : List UInt8} {twd fg : Nat} (h : TwIdle S tb w H inner t twd fg) (hl : inner.length + t.length + 1 ≤ LIM) :
    Calls Tryz.prog 139 #[.pointer (some ⟨tb, 0, none⟩)] w fun e w' => e = .returned (.tuple #[]) ∧ TwDone S tb H (inner ++ t) [] twd fg w w' := by
  by_cases h0 : t = []
  · subst h0
    rw [List.append_nil]
    exact tw_fnd_empty hs hok h (by simp at hl; omega)
  · exact tw_fnd_text hs hok h h0 hl
end Go.Proofs.YtnhmgjgdkcgmfaaGreatFmt
