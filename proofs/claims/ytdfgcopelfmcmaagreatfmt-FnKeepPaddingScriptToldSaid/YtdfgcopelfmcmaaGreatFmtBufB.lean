/-
  The contract of bufio.Writer.Flush, over any lawful sink.
-/
import Derived.Test.YtdfgcopelfmcmaaGreatFmtBufA
namespace Go.Proofs.YtdfgcopelfmcmaaGreatFmt
open Go.RowKit

/-- What a call that writes to the buffered writer leaves. -/
def BufPost (s : Sink) (b : Nat) (F : Nat → Prop) (w : World) (inner pend : List UInt8) (w' : World) : Prop :=
  ∃ F', BufP s b w' F' inner pend ∧ (∀ k, F' k → F k ∨ w.heap.size ≤ k) ∧ Upd F w w'

set_option maxRecDepth 100000 in
set_option maxHeartbeats 400000 in
theorem flush_empty {s : Sink} {b : Nat} {w : World} {F : Nat → Prop} {inner : List UInt8} (h : BufP s b w F inner []) :
    Calls Tryz.prog 240 #[.pointer (some ⟨b, 0, none⟩)] w fun e w' => e = .returned .nilIface ∧ BufPost s b F w inner [] w' := by
  have h' := h
  obtain ⟨g, cur, Fs, hb, _⟩ := h
  have hc0 : w.cell? ⟨b, 0, none⟩ = some .nilIface := cell_at hb 0
  have hc2 : w.cell? ⟨b, 2, none⟩ = some (.int .i64 0) := cell_at hb 2
  clear hb
  have H := Lib.hid h'; clear h'
  go_enter Tryz.func240, Tryz.ntmps240
  go_wp2
  go_ret
  exact ⟨rfl, F, H.out, fun k hk => .inl hk, Upd.refl _ _⟩

set_option maxRecDepth 100000 in
set_option maxHeartbeats 400000 in
theorem flush_full {s : Sink} (hs : s.Law Tryz.prog 542) {b : Nat} {w : World} {F : Nat → Prop} {inner pend : List UInt8} (h : BufP s b w F inner pend) (hne : pend ≠ []) (hl : inner.length + pend.length ≤ LIM) :
    Calls Tryz.prog 240 #[.pointer (some ⟨b, 0, none⟩)] w fun e w' => e = .returned .nilIface ∧ BufPost s b F w (inner ++ pend) [] w' := by
  obtain ⟨g, cur, Fs, hb, hg, hsz, hn, htk, hok, hI, hbg, hFb, hFg, hF⟩ := h
  have hc0 : w.cell? ⟨b, 0, none⟩ = some .nilIface := cell_at hb 0
  have hc1 : w.cell? ⟨b, 1, none⟩ = some (.slice (some ⟨g, 0, none⟩) 4096 4096) := cell_at hb 1
  have hc2 : w.cell? ⟨b, 2, none⟩ = some (.int .i64 (pend.length : Int)) := cell_at hb 2
  have hc3 : w.cell? ⟨b, 3, none⟩ = some (.iface s.ty (.pointer (some s.ptr))) := cell_at hb 3
  have hm := hs.meth
  have he := hs.enters
  have hp0 : 0 < pend.length := List.length_pos_iff.2 hne
  have hlen : ((pend.length : Int) == 0) = false := by rw [beq_eq_false_iff_ne]; omega
  have hn' : (pend.length : Int) ≤ 4096 := by omega
  have hlt : decide ((pend.length : Int) < (pend.length : Int)) = false := by simp
  have HW0 : ∀ w', Upd (fun _ => False) w w' → Calls Tryz.prog s.wf #[.pointer (some s.ptr), .slice (some ⟨g, 0, none⟩) pend.length 4096] w' fun e w'' =>
      e = .returned (.tuple #[.int .i64 (pend.length : Int), .nilIface]) ∧ ∃ F', s.I w'' F' (inner ++ pend) ∧ (∀ k, F' k → Fs k ∨ w'.heap.size ≤ k) ∧ Upd Fs w' w'' := fun w' hu =>
    hs.write (hs.stable hI hu fun _ _ hf => hf) (.inr ⟨_, _, rfl, fun _ => ⟨hFg, hn⟩, fun j u hj => hu.cell (by
      rw [Addr.add_lit, cell_at hg]; rw [← htk, List.getElem?_take] at hj; split at hj; · simpa using hj
      · cases hj) (fun hf => hf)⟩) hok hl
  have HW := Lib.hid HW0; clear HW0
  have HI := Lib.hid hI; clear hI
  have HF := Lib.hid hF; clear hF
  go_enter Tryz.func240, Tryz.ntmps240
  go_wp2_with fail
  go_region_held3 (fun w' => w'.cell? ⟨b, 1, none⟩ = some (.slice (some ⟨g, 0, none⟩) 4096 4096) ∧ w'.cell? ⟨b, 2, none⟩ = some (.int .i64 (pend.length : Int)) ∧ w'.cell? ⟨b, 3, none⟩ = some (.iface s.ty (.pointer (some s.ptr)))) (first | exact ⟨hc1, hc2, hc3⟩ | exact ⟨k1, k2, k3⟩ | simp [go_sem, *])
    (first | (refine (HW.out _ ?_).mono ?_; exact (Upd.refl _ _).drew; rintro e w1 ⟨rfl, F1, hI1, hF1, hU1⟩; have k0 := hU1.cell (p := ⟨b, 0, none⟩) hc0 hFb; have k1 := hU1.cell (p := ⟨b, 1, none⟩) hc1 hFb; have k2 := hU1.cell (p := ⟨b, 2, none⟩) hc2 hFb; have k3 := hU1.cell (p := ⟨b, 3, none⟩) hc3 hFb))
  have kf : w1.frozen? ⟨b, 2, none⟩ = false := frozen_at (hU1.heap (k := b) hb hFb) 2
  go_wp2
  go_ret
  refine ⟨rfl, fun k => k = b ∨ k = g ∨ F1 k, ⟨g, cur, F1, ?_, ?_, hsz, Nat.zero_le _, rfl, fun c hc => (by cases hc), ?_, hbg, ?_, ?_, fun k => Iff.rfl⟩, ?_, ?_⟩
  · rw [heap_setCell_at _ (hU1.heap (k := b) hb hFb)]; rfl
  · rw [Below.heap_setCell _ _ _ _ (Ne.symm hbg)]; exact hU1.heap (k := g) hg hFg
  · exact hs.stable hI1 ((Upd.refl (fun k => k = b) _).setCell (.inl rfl) _) fun k hk e => by subst e; rcases hF1 _ hk with h | h; exact hFb h; exact absurd (heap_lt hb) (by simpa using h)
  · intro h; rcases hF1 _ h with h | h; exact hFb h; exact absurd (heap_lt hb) (by simpa using h)
  · intro h; rcases hF1 _ h with h | h; exact hFg h; exact absurd (heap_lt hg) (by simpa using h)
  · intro k hk
    rcases hk with rfl | rfl | hk
    · exact .inl ((HF.out k).2 (.inl rfl))
    · exact .inl ((HF.out k).2 (.inr (.inl rfl)))
    · rcases hF1 k hk with h | h
      · exact .inl ((HF.out k).2 (.inr (.inr h)))
      · exact .inr (by simpa using h)
  · exact ((Upd.refl F w).drew.trans' hU1 fun i hi => .inl ((HF.out i).2 (.inr (.inr hi)))).setCell (.inl ((HF.out b).2 (.inl rfl))) _

theorem flush_any {s : Sink} (hs : s.Law Tryz.prog 542) {b : Nat} {w : World} {F : Nat → Prop} {inner pend : List UInt8} (h : BufP s b w F inner pend) (hl : inner.length + pend.length ≤ LIM) :
    Calls Tryz.prog 240 #[.pointer (some ⟨b, 0, none⟩)] w fun e w' => e = .returned .nilIface ∧ BufPost s b F w (inner ++ pend) [] w' := by
  by_cases hp : pend = []
  · subst hp
    rw [List.append_nil]
    exact flush_empty h
  · exact flush_full hs h hp hl
end Go.Proofs.YtdfgcopelfmcmaaGreatFmt
