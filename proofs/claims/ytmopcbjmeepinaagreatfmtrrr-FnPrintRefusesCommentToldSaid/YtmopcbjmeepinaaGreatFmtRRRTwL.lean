/-
  tabwriter.Writer: Flush; what a call with handlePanic deferred leaves.
-/
import Derived.Test.YtmopcbjmeepinaaGreatFmtRRRTwK
import Derived.Defers
import Derived.Recover
import Derived.Lib.ByteType
import Derived.Shelf.Abstract
namespace Go.Proofs.YtmopcbjmeepinaaGreatFmtRRR
open Go.RowKit

set_option maxRecDepth 100000 in
set_option maxHeartbeats 2000000 in
/-- handlePanic where nothing panics. -/
theorem tw_handlePanic (a b c : Value) (w : World) :
    CallsD Tryz.prog 175 #[a, b, c] .returning w fun e u' w' => e = .returned (.tuple #[]) ∧ u' = .returning ∧ w' = w := by
  have hnn : ∀ w, (binOp .neq 20 .nilIface .nilIface).run Tryz.prog w = .ok (.bool false) w := fun w => Lib.run_neq_nil_nil w Tryz.underlying20
  refine callsD_of_wpS Tryz.func175 rfl fun c₀ cs hu => ?_
  apply wpS_seq
  apply wpS_region
  simp [wpOpsS, go_sem, recoverD, hu, Tryz.ntmps175, Exit.thenS]
  apply wpS_seq
  apply wpS_region
  simp [wpOpsS, go_sem, recoverD, hu, hnn, Exit.thenS]
  refine wpS_cond (t := false) (by simp [Act.eval, Array.replicate]) ?_
  simp only [Bool.false_eq_true, if_false]
  refine wpS_of_wp (wp_skip ?_)
  cases c₀
  simp_all [bodyPostS, results]
theorem TwIdle.lt {P : Program} {fuel : Nat} {S : Sink} (hs : S.Law P fuel) {tb : Nat} {w : World} {H : Nat → Prop} {inner t : List UInt8} {twd fg : Nat} (h : TwIdle S tb w H inner t twd fg) : ∀ k, H k → k < w.heap.size := by
  obtain ⟨G, Fs, ⟨vb, vl, aw, cap, hb, hr, hvb, hl, hI, hFt, hGt, hGF, hGl, hfg⟩, hH⟩ := h
  intro k hk
  rcases (hH k).1 hk with rfl | h | h
  · exact heap_lt hb
  · exact hGl k h
  · exact hs.lt hI k h

theorem TwAt.stable {P : Program} {fuel : Nat} {S : Sink} (hs : S.Law P fuel) {tb : Nat} {w w' : World} {G Fs H : Nat → Prop} {inner t : List UInt8} {twd fg pos cs : Nat} {cw : Int} {ht : Bool} {nl : Nat} {c0 : List TCell}
    (h : TwAt S tb w G Fs inner t twd fg pos cs cw ht nl c0) (hu : Upd H w w') (hd : ∀ k, (k = tb ∨ G k ∨ Fs k) → ¬ H k) : TwAt S tb w' G Fs inner t twd fg pos cs cw ht nl c0 := by
  obtain ⟨vb, vl, aw, cap, hb, hr, hvb, ⟨L, capL, cur, v0, h1, hL, h3, h4, h5, h6, hGL, h8, ho0, hG0, h11⟩, hI, hFt, hGt, hGF, hGl, hfg⟩ := h
  exact ⟨vb, vl, aw, cap, hu.heap hb (hd tb (.inl rfl)), hr.stable hu fun k hk => hd k (.inr (.inl (hvb k hk))), hvb, ⟨L, capL, cur, v0, h1, hu.heap hL (hd L (.inr (.inl hGL))), h3, h4, h5, h6, hGL, h8, own_stable ho0 hu fun k hk => hd k (.inr (.inl (hG0 k hk))), hG0, h11⟩,
    hs.stable hI hu fun k hk => hd k (.inr (.inr hk)), hFt, hGt, hGF, fun k hk => Nat.lt_of_lt_of_le (hGl k hk) hu.size, hfg⟩

theorem TwIdle.stable {P : Program} {fuel : Nat} {S : Sink} (hs : S.Law P fuel) {tb : Nat} {w w' : World} {H K : Nat → Prop} {inner t : List UInt8} {twd fg : Nat} (h : TwIdle S tb w H inner t twd fg) (hu : Upd K w w') (hd : ∀ k, H k → ¬ K k) : TwIdle S tb w' H inner t twd fg := by
  obtain ⟨G, Fs, hA, hH⟩ := h
  exact ⟨G, Fs, hA.stable hs hu fun k hk => hd k ((hH k).2 hk), hH⟩

theorem TwDone.of {S : Sink} {tb : Nat} {H H1 : Nat → Prop} {inner t : List UInt8} {twd fg : Nat} {w w1 w2 : World} (h : TwDone S tb H1 inner t twd fg w1 w2) (hH : ∀ k, H1 k → H k ∨ w.heap.size ≤ k) (hu : Upd H w w1) : TwDone S tb H inner t twd fg w w2 := by
  obtain ⟨H', h1, h2, h3⟩ := h
  refine ⟨H', h1, fun k hk => ?_, hu.trans' h3 hH⟩
  rcases h2 k hk with h | h
  · exact hH k h
  · exact .inr (Nat.le_trans hu.size h)

set_option maxRecDepth 100000 in
set_option maxHeartbeats 2000000 in
/-- flushNoDefers where no text waits. -/
theorem tw_fnd_empty {S : Sink} (hs : S.Law Tryz.prog 548) (hok : ∀ c, S.okb c = true) {tb : Nat} {w : World} {H : Nat → Prop} {inner : List UInt8} {twd fg : Nat} (h : TwIdle S tb w H inner [] twd fg) (hl : inner.length ≤ LIM) :
    Calls Tryz.prog 176 #[.pointer (some ⟨tb, 0, none⟩)] w fun e w' => e = .returned (.tuple #[]) ∧ TwDone S tb H inner [] twd fg w w' := by
  obtain ⟨G, Fs, hA, hH⟩ := h
  have hf := tw_fnd hs hA (by simp) (.inl rfl) (tw_wl0 hs hok hA hl)
  rw [List.append_nil] at hf
  refine hf.mono ?_
  rintro e w' ⟨rfl, H', h1, h2, h3⟩
  exact ⟨rfl, H', h1, fun k hk => (h2 k hk).imp (hH k).2 id, h3.mono fun k hk => (hH k).2 hk⟩

set_option maxRecDepth 100000 in
set_option maxHeartbeats 4000000 in
/-- flush, over what flushNoDefers is known to leave. -/
theorem tw_flush {S : Sink} (hs : S.Law Tryz.prog 548) {tb : Nat} {w : World} {H : Nat → Prop} {inner t out : List UInt8} {twd fg : Nat} (h : TwIdle S tb w H inner t twd fg)
    (hfl : ∀ W, TwIdle S tb W H inner t twd fg → Calls Tryz.prog 176 #[.pointer (some ⟨tb, 0, none⟩)] W fun e w' => e = .returned (.tuple #[]) ∧ TwDone S tb H out [] twd fg W w') :
    Calls Tryz.prog 145 #[.pointer (some ⟨tb, 0, none⟩)] w fun e w' => e = .returned .nilIface ∧ TwDone S tb H out [] twd fg w w' := by
  have hA : Upd (fun _ => False) w (w.alloc (.cells #[.nilIface] 35)) := (Upd.refl _ w).alloc _
  have hNew : (w.alloc (.cells #[.nilIface] 35)).heap[w.heap.size]? = some (.cells #[.nilIface] 35 (0, 0)) := heap_alloc_new w _
  have hlt := h.lt hs
  have hnH : ¬ H w.heap.size := fun e => absurd (hlt _ e) (by omega)
  obtain ⟨Q, HQ, HC⟩ := callsVar (hfl _ (h.stable hs hA fun _ _ h => h))
  have HNew := Lib.hid hNew
  have HA := Lib.hid hA
  clear hfl h hA hNew
  go_enter_defers Tryz.func145, Tryz.ntmps145
  go_wp2_with (go_at_call 176; refine HC.out.mono ?_)
  rintro e w1 hq
  obtain ⟨rfl, H1, hI1, hH1, hU1⟩ := HQ.out e w1 hq
  clear hq
  have HN1 := Lib.hid (hU1.heap HNew.out hnH)
  have e0 : w1.cell? ⟨w.heap.size, 0, none⟩ = some .nilIface := cell_at HN1.out 0
  have ef : w1.frozen? ⟨w.heap.size, 0, none⟩ = false := frozen_at HN1.out 0
  have hn1 : ¬ H1 w.heap.size := fun e => by
    rcases hH1 _ e with h | h
    · exact hnH h
    · simp at h; omega
  have HI1 := Lib.hid hI1
  have HH1 := Lib.hid hH1
  have HU1 := Lib.hid hU1
  clear hI1 hH1 hU1
  go_wp2_with fail
  have hW : (w1.setCell ⟨w.heap.size, 0, none⟩ .nilIface).cell? ⟨w.heap.size, 0, none⟩ = some .nilIface := by rw [cell_at (heap_setCell_at _ HN1.out)]; rfl
  refine leaves_cons (f := 175) (args := #[.pointer (some ⟨tb, 0, none⟩), .pointer (some ⟨w.heap.size, 0, none⟩), .string ⟨#[70, 108, 117, 115, 104]⟩]) (by simp) (Go.Proofs.enters_of Tryz.func175 (by kernel_rfl) rfl _ _) ?_
  refine (tw_handlePanic _ _ _ _).mono ?_
  rintro e u' w'' ⟨rfl, rfl, rfl⟩
  refine ⟨.nilIface, ?_, rfl, ?_⟩
  · simp [results, go_sem, hW]
  · refine ⟨H1, HI1.out.stable hs ((Upd.refl (fun k => k = w.heap.size) w1).setCell (p := ⟨w.heap.size, 0, none⟩) (.inl rfl) _) (fun k hk e => hn1 (e ▸ hk)), fun k hk => ?_, ?_⟩
    · rcases HH1.out k hk with h | h
      · exact .inl h
      · exact .inr (Nat.le_trans HA.out.size h)
    · exact ((HA.out.mono fun _ h => h.elim).trans HU1.out).setCell (p := ⟨w.heap.size, 0, none⟩) (.inr (Nat.le_refl _)) _

set_option maxRecDepth 100000 in
set_option maxHeartbeats 4000000 in
/-- Flush. -/
theorem tw_Flush {S : Sink} (hs : S.Law Tryz.prog 548) {tb : Nat} {w : World} {H : Nat → Prop} {inner t out : List UInt8} {twd fg : Nat} (h : TwIdle S tb w H inner t twd fg)
    (hfl : ∀ W, TwIdle S tb W H inner t twd fg → Calls Tryz.prog 176 #[.pointer (some ⟨tb, 0, none⟩)] W fun e w' => e = .returned (.tuple #[]) ∧ TwDone S tb H out [] twd fg W w') :
    Calls Tryz.prog 70 #[.pointer (some ⟨tb, 0, none⟩)] w fun e w' => e = .returned .nilIface ∧ TwDone S tb H out [] twd fg w w' := by
  obtain ⟨Q, HQ, HC⟩ := callsVar (tw_flush hs h hfl)
  clear hfl h
  go_enter Tryz.func70, Tryz.ntmps70
  go_wp2_with (go_at_call 145; refine HC.out.mono ?_)
  rintro e w1 hq
  obtain ⟨rfl, h1⟩ := HQ.out e w1 hq
  clear hq
  have H1 := Lib.hid h1; clear h1
  go_wp2
  go_ret
  exact ⟨rfl, H1.out⟩
end Go.Proofs.YtmopcbjmeepinaaGreatFmtRRR
