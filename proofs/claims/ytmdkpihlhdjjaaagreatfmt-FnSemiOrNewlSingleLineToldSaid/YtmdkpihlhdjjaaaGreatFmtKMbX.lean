/-
  Contracts of bufio.Writer's small methods and of Flush, over any lawful sink.
  The contract of bufio.Writer.Flush, over any lawful sink.
  The contract of bufio.Writer.WriteByte, over any lawful sink.
  bufio.NewWriter over a lawful sink.
-/
import Derived.Test.YtmdkpihlhdjjaaaGreatFmtProg
import Derived.Test.YtmdkpihlhdjjaaaGreatFmtKMaX
import Derived.Deep.RegionHeld3
import Derived.Deep.QuietTactic
import Derived.BigQuiet
import Derived.StillTailTactics
import Derived.Lib.Hide
namespace Go.Proofs.YtmdkpihlhdjjaaaGreatFmt
open Go.RowKit

theorem avail_any (b g : Nat) (n : Int) (w : World) (h0 : 0 ≤ n) (h1 : n ≤ 4096) (hc1 : w.cell? ⟨b, 1, none⟩ = some (.slice (some ⟨g, 0, none⟩) 4096 4096)) (hc2 : w.cell? ⟨b, 2, none⟩ = some (.int .i64 n)) :
    Calls Tryz.prog 238 #[.pointer (some ⟨b, 0, none⟩)] w fun e w' => e = .returned (.int .i64 (4096 - n)) ∧ ∃ k, w' = w.drewN k := by
  go_enter Tryz.func238, Tryz.ntmps238
  go_wp2
  go_quiet (fail)
  go_wp2
  go_ret
  exact ⟨rfl, _, rfl⟩
theorem buffered_any (b : Nat) (n : Int) (w : World) (hc2 : w.cell? ⟨b, 2, none⟩ = some (.int .i64 n)) :
    Calls Tryz.prog 244 #[.pointer (some ⟨b, 0, none⟩)] w fun e w' => e = .returned (.int .i64 n) ∧ w' = w := by
  go_enter Tryz.func244, Tryz.ntmps244
  go_wp2
  go_ret
  exact ⟨rfl, rfl⟩
end Go.Proofs.YtmdkpihlhdjjaaaGreatFmt

namespace Go.Proofs.YtmdkpihlhdjjaaaGreatFmt
open Go.RowKit

/-- What a call that writes to the buffered writer leaves. -/
def BufPost (s : Sink) (b : Nat) (F : Nat → Prop) (w : World) (inner pend : List UInt8) (w' : World) : Prop :=
  ∃ F', BufP s b w' F' inner pend ∧ (∀ k, F' k → F k ∨ w.heap.size ≤ k) ∧ Upd F w w'

set_option maxRecDepth 100000 in
set_option maxHeartbeats 400000 in
theorem flush_empty {s : Sink} {b : Nat} {w : World} {F : Nat → Prop} {inner : List UInt8} (h : BufP s b w F inner []) :
    Calls Tryz.prog 239 #[.pointer (some ⟨b, 0, none⟩)] w fun e w' => e = .returned .nilIface ∧ BufPost s b F w inner [] w' := by
  have h' := h
  obtain ⟨g, cur, Fs, hb, _⟩ := h
  have hc0 : w.cell? ⟨b, 0, none⟩ = some .nilIface := cell_at hb 0
  have hc2 : w.cell? ⟨b, 2, none⟩ = some (.int .i64 0) := cell_at hb 2
  clear hb
  have H := Lib.hid h'; clear h'
  go_enter Tryz.func239, Tryz.ntmps239
  go_wp2
  go_ret
  exact ⟨rfl, F, H.out, fun k hk => .inl hk, Upd.refl _ _⟩

set_option maxRecDepth 100000 in
set_option maxHeartbeats 400000 in
theorem flush_full {s : Sink} (hs : s.Law Tryz.prog 561) {b : Nat} {w : World} {F : Nat → Prop} {inner pend : List UInt8} (h : BufP s b w F inner pend) (hne : pend ≠ []) (hl : inner.length + pend.length ≤ LIM) :
    Calls Tryz.prog 239 #[.pointer (some ⟨b, 0, none⟩)] w fun e w' => e = .returned .nilIface ∧ BufPost s b F w (inner ++ pend) [] w' := by
  obtain ⟨g, cur, Fs, hb, hg, hsz, hn, htk, hok, hI, hbg, hFb, hFg, hF⟩ := h
  have hc0 : w.cell? ⟨b, 0, none⟩ = some .nilIface := cell_at hb 0
  have hc1 : w.cell? ⟨b, 1, none⟩ = some (.slice (some ⟨g, 0, none⟩) 4096 4096) := cell_at hb 1
  have hc2 : w.cell? ⟨b, 2, none⟩ = some (.int .i64 (pend.length : Int)) := cell_at hb 2
  have hc3 : w.cell? ⟨b, 3, none⟩ = some (.iface s.ty (.pointer (some s.ptr))) := cell_at hb 3
  have hm := hs.meth
  have he := hs.enters
  have hp0 : 0 < pend.length := List.length_pos_iff.2 hne
  have hlen : ((pend.length : Int) == 0) = false := by rw [beq_eq_false_iff_ne]; omega
  have hn' : (pend.length : Int) ≤ 4096 := by omega
  have hlt : decide ((pend.length : Int) < (pend.length : Int)) = false := by simp
  have HW0 : ∀ w', Upd (fun _ => False) w w' → Calls Tryz.prog s.wf #[.pointer (some s.ptr), .slice (some ⟨g, 0, none⟩) pend.length 4096] w' fun e w'' =>
      e = .returned (.tuple #[.int .i64 (pend.length : Int), .nilIface]) ∧ ∃ F', s.I w'' F' (inner ++ pend) ∧ (∀ k, F' k → Fs k ∨ w'.heap.size ≤ k) ∧ Upd Fs w' w'' := fun w' hu =>
    hs.write (hs.stable hI hu fun _ _ hf => hf) (.inr ⟨_, _, rfl, fun _ => ⟨hFg, hn⟩, fun j u hj => hu.cell (by
      rw [Addr.add_lit, cell_at hg]; rw [← htk, List.getElem?_take] at hj; split at hj; · simpa using hj
      · cases hj) (fun hf => hf)⟩) hok hl
  have HW := Lib.hid HW0; clear HW0
  have HI := Lib.hid hI; clear hI
  have HF := Lib.hid hF; clear hF
  go_enter Tryz.func239, Tryz.ntmps239
  go_wp2_with fail
  go_region_held3 (fun w' => w'.cell? ⟨b, 1, none⟩ = some (.slice (some ⟨g, 0, none⟩) 4096 4096) ∧ w'.cell? ⟨b, 2, none⟩ = some (.int .i64 (pend.length : Int)) ∧ w'.cell? ⟨b, 3, none⟩ = some (.iface s.ty (.pointer (some s.ptr)))) (first | exact ⟨hc1, hc2, hc3⟩ | exact ⟨k1, k2, k3⟩ | simp [go_sem, *])
    (first | (refine (HW.out _ ?_).mono ?_; exact (Upd.refl _ _).drew; rintro e w1 ⟨rfl, F1, hI1, hF1, hU1⟩; have k0 := hU1.cell (p := ⟨b, 0, none⟩) hc0 hFb; have k1 := hU1.cell (p := ⟨b, 1, none⟩) hc1 hFb; have k2 := hU1.cell (p := ⟨b, 2, none⟩) hc2 hFb; have k3 := hU1.cell (p := ⟨b, 3, none⟩) hc3 hFb))
  have kf : w1.frozen? ⟨b, 2, none⟩ = false := frozen_at (hU1.heap (k := b) hb hFb) 2
  go_wp2
  go_ret
  refine ⟨rfl, fun k => k = b ∨ k = g ∨ F1 k, ⟨g, cur, F1, ?_, ?_, hsz, Nat.zero_le _, rfl, fun c hc => (by cases hc), ?_, hbg, ?_, ?_, fun k => Iff.rfl⟩, ?_, ?_⟩
  · rw [heap_setCell_at _ (hU1.heap (k := b) hb hFb)]; rfl
  · rw [Below.heap_setCell _ _ _ _ (Ne.symm hbg)]; exact hU1.heap (k := g) hg hFg
  · exact hs.stable hI1 ((Upd.refl (fun k => k = b) _).setCell (.inl rfl) _) fun k hk e => by subst e; rcases hF1 _ hk with h | h; exact hFb h; exact absurd (heap_lt hb) (by simpa using h)
  · intro h; rcases hF1 _ h with h | h; exact hFb h; exact absurd (heap_lt hb) (by simpa using h)
  · intro h; rcases hF1 _ h with h | h; exact hFg h; exact absurd (heap_lt hg) (by simpa using h)
  · intro k hk
    rcases hk with rfl | rfl | hk
    · exact .inl ((HF.out k).2 (.inl rfl))
    · exact .inl ((HF.out k).2 (.inr (.inl rfl)))
    · rcases hF1 k hk with h | h
      · exact .inl ((HF.out k).2 (.inr (.inr h)))
      · exact .inr (by simpa using h)
  · exact ((Upd.refl F w).drew.trans' hU1 fun i hi => .inl ((HF.out i).2 (.inr (.inr hi)))).setCell (.inl ((HF.out b).2 (.inl rfl))) _

theorem flush_any {s : Sink} (hs : s.Law Tryz.prog 561) {b : Nat} {w : World} {F : Nat → Prop} {inner pend : List UInt8} (h : BufP s b w F inner pend) (hl : inner.length + pend.length ≤ LIM) :
    Calls Tryz.prog 239 #[.pointer (some ⟨b, 0, none⟩)] w fun e w' => e = .returned .nilIface ∧ BufPost s b F w (inner ++ pend) [] w' := by
  by_cases hp : pend = []
  · subst hp
    rw [List.append_nil]
    exact flush_empty h
  · exact flush_full hs h hp hl
end Go.Proofs.YtmdkpihlhdjjaaaGreatFmt

namespace Go.Proofs.YtmdkpihlhdjjaaaGreatFmt
open Go.RowKit

theorem take_set_snoc {cur : Array Value} {l : List UInt8} {c : UInt8} (h : cur.toList.take l.length = bv l) (hl : l.length < cur.size) :
    (cur.setIfInBounds l.length (B8 c)).toList.take (l ++ [c]).length = bv (l ++ [c]) := by
  rw [Array.toList_setIfInBounds, bv_append, ← h, List.length_append, List.length_singleton]
  apply List.ext_getElem?
  intro i
  simp only [List.getElem?_take, List.getElem?_set, List.getElem?_append, List.length_take, Array.length_toList, bv, List.map_cons, List.map_nil]
  have hm : min l.length cur.size = l.length := by omega
  rw [hm]
  by_cases h1 : i < l.length
  · have h2 : ¬ l.length = i := by omega
    simp [h1, h2]; omega
  · by_cases h3 : i = l.length
    · subst h3; simp [hl]
    · simp [h1]
      have h4 : ¬ i < l.length + 1 := by omega
      have h5 : ¬ i - l.length < 1 := by omega
      simp [h4]; omega

set_option maxRecDepth 100000 in
set_option maxHeartbeats 400000 in
theorem wb_room {s : Sink} (hs : s.Law Tryz.prog 561) {b : Nat} {w : World} {F : Nat → Prop} {inner pend : List UInt8} {x : Int} (c : UInt8) (hx : x = (c.toNat : Int)) (h : BufP s b w F inner pend) (hr : pend.length < 4096) (hk : s.okb c = true) :
    Calls Tryz.prog 242 #[.pointer (some ⟨b, 0, none⟩), .int .u8 x] w fun e w' => e = .returned .nilIface ∧ BufPost s b F w inner (pend ++ [c]) w' := by
  obtain ⟨g, cur, Fs, hb, hg, hsz, hn, htk, hok, hI, hbg, hFb, hFg, hF⟩ := h
  have hc0 : w.cell? ⟨b, 0, none⟩ = some .nilIface := cell_at hb 0
  have hc1 : w.cell? ⟨b, 1, none⟩ = some (.slice (some ⟨g, 0, none⟩) 4096 4096) := cell_at hb 1
  have hc2 : w.cell? ⟨b, 2, none⟩ = some (.int .i64 (pend.length : Int)) := cell_at hb 2
  have hfb : w.frozen? ⟨b, 2, none⟩ = false := frozen_at hb 2
  have hfg : w.frozen? ⟨g, pend.length, none⟩ = false := frozen_at hg _
  have hcg : w.cell? ⟨g, pend.length, none⟩ = some (cur[pend.length]'(by omega)) := by rw [cell_at hg, Array.getElem?_eq_getElem]
  have hbg' : ¬ g = b := fun e => hbg e.symm
  have htest : decide ((4096 : Int) - (pend.length : Int) ≤ 0) = false := by simp; omega
  have hn' : (pend.length : Int) < 4096 := by omega
  have HF := Lib.hid hF; clear hF
  have HX := Lib.hid hx; clear hx
  go_enter Tryz.func242, Tryz.ntmps242
  go_wp2_with (go_at_call 238; refine (avail_any b g _ _ ?_ ?_ hc1 hc2).mono ?_; omega; omega; rintro e w1 ⟨rfl, k1, rfl⟩)
  go_region
  go_wp2
  go_ret
  obtain rfl := HX.out
  have hu0 : Upd (fun k => k = b ∨ k = g) w (((w.drewN k1).setCell ⟨g, pend.length, none⟩ (B8 c)).setCell ⟨b, 2, none⟩ (.int .i64 ((pend.length : Int) + 1))).drew :=
    ((((Upd.refl _ w).drewN k1).setCell (.inl (.inr rfl)) _).setCell (.inl (.inl rfl)) _).drew
  have hu : Upd F w (((w.drewN k1).setCell ⟨g, pend.length, none⟩ (B8 c)).setCell ⟨b, 2, none⟩ (.int .i64 ((pend.length : Int) + 1))).drew :=
    hu0.mono fun k hk => (HF.out k).2 (by rcases hk with h | h; exact .inl h; exact .inr (.inl h))
  have hb1 : ((w.drewN k1).setCell ⟨g, pend.length, none⟩ (B8 c)).heap[b]? = some _ := (Below.heap_setCell _ _ _ _ hbg).trans hb
  refine ⟨rfl, F, ⟨g, cur.setIfInBounds pend.length (B8 c), Fs, ?_, ?_, by simpa using hsz, by simp; omega, take_set_snoc htk (by omega), ?_, ?_, hbg, hFb, hFg, HF.out⟩, fun k hk => .inl hk, hu⟩
  · refine (heap_setCell_at _ hb1).trans ?_
    simp
  · exact (Below.heap_setCell _ _ _ _ hbg').trans (heap_setCell_at _ hg)
  · intro d hd
    rcases List.mem_append.1 hd with h | h
    · exact hok d h
    · rw [List.mem_singleton.1 h]; exact hk
  · exact hs.stable hI hu0 fun k hk e => by rcases e with rfl | rfl; exact hFb hk; exact hFg hk

set_option maxRecDepth 100000 in
set_option maxHeartbeats 400000 in
theorem wb_full {s : Sink} (hs : s.Law Tryz.prog 561) {b : Nat} {w : World} {F : Nat → Prop} {inner pend : List UInt8} {x : Int} (c : UInt8) (hx : x = (c.toNat : Int)) (h : BufP s b w F inner pend) (hr : pend.length = 4096) (hk : s.okb c = true) (hl : inner.length + pend.length ≤ LIM) :
    Calls Tryz.prog 242 #[.pointer (some ⟨b, 0, none⟩), .int .u8 x] w fun e w' => e = .returned .nilIface ∧ BufPost s b F w (inner ++ pend) [c] w' := by
  have h0 := h
  obtain ⟨g, cur, Fs, hb, hg, hsz, hn, htk, hok, hI, hbg, hFb, hFg, hF⟩ := h
  have hc0 : w.cell? ⟨b, 0, none⟩ = some .nilIface := cell_at hb 0
  have hc1 : w.cell? ⟨b, 1, none⟩ = some (.slice (some ⟨g, 0, none⟩) 4096 4096) := cell_at hb 1
  have hc2 : w.cell? ⟨b, 2, none⟩ = some (.int .i64 (4096 : Int)) := by rw [cell_at hb 2, hr]; rfl
  clear hb hg htk hok hI hbg hFb hFg hF hn hsz
  have HR := Lib.hid hr; clear hr
  have HX := Lib.hid hx; clear hx
  have H0 := Lib.hid h0; clear h0
  have HFl := Lib.hid (fun k => flush_any hs (H0.out.stable hs (((Upd.refl (fun _ => False) w).drewN k)) (fun _ _ hf => hf)) hl)
  go_enter Tryz.func242, Tryz.ntmps242
  go_wp2_with (first
    | (go_at_call 238; refine (avail_any b g _ _ ?_ ?_ hc1 hc2).mono ?_; omega; omega; rintro e w1 ⟨rfl, k1, rfl⟩)
    | (go_at_call 239; refine (HFl.out _).mono ?_; rintro e w2 ⟨rfl, hP⟩; have HP := Lib.hid hP; clear hP))
  clear hc0 hc1 hc2
  obtain ⟨F1, ⟨g1, cur1, Fs1, hb, hg, hsz, hn, htk, hok, hI, hbg, hFb, hFg, hF⟩, hF1, hU1⟩ := HP.out
  simp only [List.length_nil] at hb htk
  have hc0 : w2.cell? ⟨b, 0, none⟩ = some .nilIface := cell_at hb 0
  have hc1 : w2.cell? ⟨b, 1, none⟩ = some (.slice (some ⟨g1, 0, none⟩) 4096 4096) := cell_at hb 1
  have hc2 : w2.cell? ⟨b, 2, none⟩ = some (.int .i64 0) := cell_at hb 2
  have hfb : w2.frozen? ⟨b, 2, none⟩ = false := frozen_at hb 2
  have hfg : w2.frozen? ⟨g1, 0, none⟩ = false := frozen_at hg _
  have hcg : w2.cell? ⟨g1, 0, none⟩ = some (cur1[0]'(by omega)) := by rw [cell_at hg, Array.getElem?_eq_getElem]
  have hbg' : ¬ g1 = b := fun e => hbg e.symm
  have HF := Lib.hid hF; clear hF
  have HSz := Lib.hid hsz
  have HTk := Lib.hid htk; clear htk
  go_wp2
  go_region
  go_wp2
  go_ret
  obtain rfl := HX.out
  have hu0 : Upd (fun k => k = b ∨ k = g1) w2 ((w2.setCell ⟨g1, 0, none⟩ (B8 c)).setCell ⟨b, 2, none⟩ (.int .i64 1)).drew :=
    (((Upd.refl _ w2).setCell (.inl (.inr rfl)) _).setCell (.inl (.inl rfl)) _).drew
  have hu1 : Upd F1 w2 ((w2.setCell ⟨g1, 0, none⟩ (B8 c)).setCell ⟨b, 2, none⟩ (.int .i64 1)).drew :=
    hu0.mono fun k hk => (HF.out k).2 (by rcases hk with h | h; exact .inl h; exact .inr (.inl h))
  have hu : Upd F w ((w2.setCell ⟨g1, 0, none⟩ (B8 c)).setCell ⟨b, 2, none⟩ (.int .i64 1)).drew :=
    (((Upd.refl F w).drewN _).trans hU1).trans' hu1 hF1
  have hb1 : (w2.setCell ⟨g1, 0, none⟩ (B8 c)).heap[b]? = some _ := (Below.heap_setCell _ _ _ _ hbg).trans hb
  refine ⟨rfl, F1, ⟨g1, cur1.setIfInBounds 0 (B8 c), Fs1, ?_, ?_, by simpa using HSz.out, by simp, ?_, ?_, ?_, hbg, hFb, hFg, HF.out⟩, hF1, hu⟩
  · refine (heap_setCell_at _ hb1).trans ?_
    simp
  · exact (Below.heap_setCell _ _ _ _ hbg').trans (heap_setCell_at _ hg)
  · exact take_set_snoc (l := []) HTk.out (by have := HSz.out; simp; omega)
  · intro d hd
    rw [List.mem_singleton.1 hd]; exact hk
  · exact hs.stable hI hu0 fun k hk e => by rcases e with rfl | rfl; exact hFb hk; exact hFg hk
/-- WriteByte: whatever is in the buffer. -/
theorem wb_any {s : Sink} (hs : s.Law Tryz.prog 561) {b : Nat} {w : World} {F : Nat → Prop} {l : List UInt8} {x : Int} (c : UInt8) (hx : x = (c.toNat : Int)) (h : BufW s b w F l) (hk : s.okb c = true) (hl : l.length < LIM) :
    Calls Tryz.prog 242 #[.pointer (some ⟨b, 0, none⟩), .int .u8 x] w fun e w' => e = .returned .nilIface ∧ ∃ F', BufW s b w' F' (l ++ [c]) ∧ (∀ k, F' k → F k ∨ w.heap.size ≤ k) ∧ Upd F w w' := by
  obtain ⟨inner, pend, hp, rfl⟩ := h
  rw [List.length_append] at hl
  by_cases hr : pend.length = 4096
  · refine (wb_full hs c hx hp hr hk (by omega)).mono ?_
    rintro e w' ⟨rfl, F', h1, h2, h3⟩
    exact ⟨rfl, F', ⟨_, _, h1, by simp⟩, h2, h3⟩
  · have hn : pend.length ≤ 4096 := by obtain ⟨g, cur, Fs, _, _, _, h, _⟩ := hp; exact h
    refine (wb_room hs c hx hp (by omega) hk).mono ?_
    rintro e w' ⟨rfl, F', h1, h2, h3⟩
    exact ⟨rfl, F', ⟨_, _, h1, by simp⟩, h2, h3⟩
end Go.Proofs.YtmdkpihlhdjjaaaGreatFmt

namespace Go.Proofs.YtmdkpihlhdjjaaaGreatFmt
open Go.RowKit

/-- The sink is no bufio.Writer. -/
def Sink.NoBW (P : Program) (s : Sink) : Prop :=
  ∀ w, (Instr.typeAssert (.iface s.ty (.pointer (some s.ptr))) 75 71 true).run P w = .ok (.tuple #[.pointer none, .bool false]) w

set_option maxRecDepth 100000 in
set_option maxHeartbeats 1000000 in
theorem nws_any {s : Sink} (hs : s.Law Tryz.prog 561) (hnb : s.NoBW Tryz.prog) {w : World} {F : Nat → Prop} {l : List UInt8} (h : s.I w F l) :
    Calls Tryz.prog 59 #[.iface s.ty (.pointer (some s.ptr)), .int .i64 4096] w fun e w' => ∃ b F', e = .returned (.pointer (some ⟨b, 0, none⟩)) ∧ BufP s b w' F' l [] ∧ w.heap.size ≤ b ∧ (∀ k, F' k → F k ∨ w.heap.size ≤ k) ∧ Upd (fun _ => False) w w' := by
  have HI := Lib.hid h; clear h
  unfold Sink.NoBW at hnb
  obtain ⟨cur, hcs, hmk⟩ : ∃ cur : Array Value, cur.size = 4096 ∧ (Instr.makeSlice 31 (.int .i64 4096) (.int .i64 4096)).run Tryz.prog w = .ok (.slice (some ⟨w.heap.size, 0, none⟩) 4096 4096) (w.alloc (.cells cur 5)) := by
    obtain ⟨i, hi, hz, hsz, hby⟩ : ∃ i, Tryz.prog.info? 5 = some i ∧ i.zero = some (.int .u8 0) ∧ i.size = 1 ∧ i.bytes = 1 := ⟨_, rfl, rfl, rfl, rfl⟩
    refine ⟨_, ?_, run_make w 31 5 i _ Tryz.underlying31 hi hz .i64 .i64 4096 4096 (by decide) (by decide) (by rw [hby]; decide) (by decide)⟩
    rw [hsz]
    simp [madeCells, Value.cells]
  go_enter Tryz.func59, Tryz.ntmps59
  go_wp2
  go_ret
  have hu : Upd (fun _ => False) w ((w.alloc (.cells cur 5)).alloc (.cells #[.nilIface, .slice (some ⟨w.heap.size, 0, none⟩) 4096 4096, .int .i64 0, .iface s.ty (.pointer (some s.ptr))] 285)) := ((Upd.refl _ w).alloc _).alloc _
  have hlt : ∀ k, F k → k < w.heap.size := hs.lt HI.out
  have hg : ((w.alloc (.cells cur 5)).alloc (.cells #[.nilIface, .slice (some ⟨w.heap.size, 0, none⟩) 4096 4096, .int .i64 0, .iface s.ty (.pointer (some s.ptr))] 285)).heap[w.heap.size]? = some (.cells cur 5 (0, 0)) :=
    (Below.heap_alloc _ _ _ (by simp)).trans (heap_alloc_new w _)
  have hb := heap_alloc_new (w.alloc (.cells cur 5)) (.cells #[.nilIface, .slice (some ⟨w.heap.size, 0, none⟩) 4096 4096, .int .i64 0, .iface s.ty (.pointer (some s.ptr))] 285)
  have hsz : (w.alloc (.cells cur 5)).heap.size = w.heap.size + 1 := by simp
  rw [hsz] at hb
  refine ⟨w.heap.size + 1, fun k => k = w.heap.size + 1 ∨ k = w.heap.size ∨ F k, rfl, ⟨w.heap.size, cur, F, hb, hg, hcs, by simp, by simp, by simp, hs.stable HI.out hu (fun _ _ h => h), by omega, fun h => ?_, fun h => ?_, fun k => Iff.rfl⟩, by omega, ?_, hu⟩
  · have := hlt _ h; omega
  · have := hlt _ h; omega
  · rintro k (h | h | h)
    · exact .inr (by omega)
    · exact .inr (by omega)
    · exact .inl h

theorem nw_any {s : Sink} (hs : s.Law Tryz.prog 561) (hnb : s.NoBW Tryz.prog) {w : World} {F : Nat → Prop} {l : List UInt8} (h : s.I w F l) :
    Calls Tryz.prog 30 #[.iface s.ty (.pointer (some s.ptr))] w fun e w' => ∃ b F', e = .returned (.pointer (some ⟨b, 0, none⟩)) ∧ BufP s b w' F' l [] ∧ w.heap.size ≤ b ∧ (∀ k, F' k → F k ∨ w.heap.size ≤ k) ∧ Upd (fun _ => False) w w' := by
  have H := Lib.hid (nws_any hs hnb h)
  clear h hs hnb
  go_enter Tryz.func30, Tryz.ntmps30
  go_wp2_with (go_at_call 59; refine H.out.mono ?_)
  rintro e w1 ⟨b, F', rfl, h⟩
  have H1 := Lib.hid h
  clear h
  go_wp2
  go_ret
  exact ⟨b, F', rfl, H1.out⟩
end Go.Proofs.YtmdkpihlhdjjaaaGreatFmt
