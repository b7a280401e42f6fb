/-
  n010_73.FnUnquotedWordUndoesEscaping: the walk, ended.
-/
import Derived.Test.YtabpbmmkkolpbaaGreatFmtU73W
import Derived.Test.YtabpbmmkkolpbaaGreatFmtShelf
namespace Go.Proofs.YtabpbmmkkolpbaaGreatFmt
open Go.RowKit

abbrev sbS (b : Nat) : Sink := ⟨47, ⟨b, 0, none⟩, 229, fun _ => true, sbI b⟩
theorem sb_nobw (b : Nat) : (sbS b).NoBW Tryz.prog := fun w => by kernel_rfl

set_option maxRecDepth 100000 in
set_option maxHeartbeats 2000000 in
theorem u73_unq {esc : ByteArray} {sL : List UInt8} {wb gp cap lb : Nat} {w : World} (hwd : w.cell? ⟨wb, 0, none⟩ = some (.slice (some ⟨gp, 0, none⟩) 1 cap)) (hgp : w.cell? ⟨gp, 0, none⟩ = some (.iface 65 (.pointer (some ⟨lb, 0, none⟩))))
    (hlb : w.cell? ⟨lb, 4, none⟩ = some (.string esc)) (hesc : esc.data.toList = escL sL) (hlim : 2 * sL.length ≤ LIM) :
    Calls Tryz.prog 17 #[.pointer (some ⟨wb, 0, none⟩)] w fun e w' => ∃ r : ByteArray, e = .returned (.string r) ∧ r.data.toList = sL ∧ Upd (fun _ => False) w w' := by
  have hlt : lb < w.heap.size := World.block_lt_of_cell? w _ hlb
  have HWd := Lib.hid hwd; clear hwd
  have HGp := Lib.hid hgp; clear hgp
  have HLb := Lib.hid hlb; clear hlb
  have HE := Lib.hid hesc; clear hesc
  have h0 : sbI w.heap.size (w.alloc (.cells #[.pointer none, .slice none 0 0] 49)) (fun k => k = w.heap.size) [] :=
    ⟨_, _, heap_alloc_new _ _, .inl rfl, Row.nil _, by simp [Value.ownBlock], fun k => by simp [Value.ownBlock]⟩
  have hs := sb_law w.heap.size
  obtain ⟨Q1, HQ1, HPr⟩ := callsVar (u73_printer (S := sbS w.heap.size) hs (sb_nobw _) rfl h0 false)
  clear h0
  have HS := Lib.hid hs; clear hs
  go_enter Tryz.func17, Tryz.ntmps17
  go_wp2_with (go_at_call 33; refine HPr.out.mono ?_)
  rintro e w2 hq
  obtain ⟨pb, b, F2, rfl, hp2, hB2, hFp, hpb, hb, hF2, hU2⟩ := HQ1.out e w2 hq
  clear hq
  have hU02 : Upd (fun _ => False) w w2 := ((Upd.refl (fun _ => False) w).alloc _).trans hU2
  have hs1 : (w.alloc (.cells #[.pointer none, .slice none 0 0] 49)).heap.size = w.heap.size + 1 := by simp
  have HUq := Lib.hid (unq_lit HS.out (fun _ => rfl) hp2 (hU02.cell HWd.out (fun h => h)) (hU02.cell HGp.out (fun h => h)) (hU02.cell HLb.out (fun h => h)) HE.out hB2 hFp (fun h => by rcases hF2 _ h with h | h <;> omega) (by simpa using hlim))
  have HF2 := Lib.hid hF2
  have HU2 := Lib.hid hU02
  clear hp2 hB2 hFp hF2 hU2 hU02
  go_wp2_with (go_at_call 34; refine HUq.out.mono ?_)
  rintro e w3 ⟨rfl, F3, ⟨inner, pend, hP3, hl3⟩, hF3, hU3⟩
  rw [List.nil_append] at hl3
  have hlen : inner.length + pend.length ≤ LIM := by
    have := congrArg List.length hl3
    rw [List.length_append] at this
    omega
  have HFl := Lib.hid (flush_any HS.out hP3 hlen)
  have HL3 := Lib.hid hl3
  have HF3 := Lib.hid hF3
  have HU3 := Lib.hid hU3
  clear hl3 hP3 hF3 hU3
  go_wp2_with (go_at_call 35; refine HFl.out.mono ?_)
  rintro e w4 ⟨rfl, F4, ⟨g4, cur4, Fs4, _, _, _, _, _, _, hI4, _, _, _, hF4i⟩, hF4, hU4⟩
  rw [← HL3.out] at hI4
  obtain ⟨p4, v4, hb4, hp4, hv4, hn4, hFv⟩ := hI4
  have hz2 := HU2.out.size
  have hz3 := HU3.out.size
  have hfresh : ∀ k, v4.ownBlock = some k → w.heap.size ≤ k := fun k hk => by
    rcases hF4 k ((hF4i k).2 (.inr (.inr ((hFv k).2 (.inr hk))))) with h | h
    · rcases HF3.out k h with h | h
      · rcases HF2.out k h with h | h <;> omega
      · omega
    · omega
  have hBu : Lib.IsBuilder 49 5 w.heap.size w.heap.size (Lib.byteCells sL) w4 := by
    have hr : w4.ownsRow w.heap.size 5 1 v4 (Lib.byteCells sL).length (Lib.byteCells sL) := by
      have h := hv4.base hfresh
      have e : (Lib.byteCells sL).length = sL.length := by simp [Lib.byteCells]
      rw [e]
      exact h
    rcases hp4 with rfl | rfl
    · exact .inl ⟨Nat.le_refl _, v4, hb4, hr, hn4⟩
    · exact .inr ⟨Nat.le_refl _, v4, hb4, hr, hn4⟩
  have hz4 := hU4.size
  have HSt := Lib.hid (Tryz.Builder_String_any w.heap.size w.heap.size sL w4 hBu (by omega))
  have hU04 : Upd (fun k => w.heap.size ≤ k) w w4 := ((HU2.out.mono (fun _ h => h.elim)).trans' (HU3.out.trans' hU4 HF3.out) (fun k hk => .inl (by rcases HF2.out k hk with h | h <;> omega)))
  have HU4 := Lib.hid hU04
  clear hBu hb4 hp4 hv4 hn4 hU4 hF4 hFv hF4i hU04 hfresh
  go_wp2_with (go_at_call 36; refine HSt.out.mono ?_)
  rintro e w5 ⟨rfl, hB5⟩
  have HB5 := Lib.hid hB5
  clear hB5
  go_wp2
  go_ret
  refine ⟨_, rfl, by simp, ?_⟩
  exact (HU4.out.trans' (G := fun k => w.heap.size ≤ k) ⟨HB5.out.os, HB5.out.tape, HB5.out.output, HB5.out.size, fun k hk hn => HB5.out.block k (by omega)⟩ (fun k hk => .inl hk)).strict (fun k hk => hk)
end Go.Proofs.YtabpbmmkkolpbaaGreatFmt
