/-
  The contract of bufio.Writer.WriteByte, over any lawful sink.
-/
import Derived.Test.YtdfgcopelfmcmaaGreatFmtBufB
namespace Go.Proofs.YtdfgcopelfmcmaaGreatFmt
open Go.RowKit

theorem take_set_snoc {cur : Array Value} {l : List UInt8} {c : UInt8} (h : cur.toList.take l.length = bv l) (hl : l.length < cur.size) :
    (cur.setIfInBounds l.length (B8 c)).toList.take (l ++ [c]).length = bv (l ++ [c]) := by
  rw [Array.toList_setIfInBounds, bv_append, ← h, List.length_append, List.length_singleton]
  apply List.ext_getElem?
  intro i
  simp only [List.getElem?_take, List.getElem?_set, List.getElem?_append, List.length_take, Array.length_toList, bv, List.map_cons, List.map_nil]
  have hm : min l.length cur.size = l.length := by omega
  rw [hm]
  by_cases h1 : i < l.length
  · have h2 : ¬ l.length = i := by omega
    simp [h1, h2]; omega
  · by_cases h3 : i = l.length
    · subst h3; simp [hl]
    · simp [h1]
      have h4 : ¬ i < l.length + 1 := by omega
      have h5 : ¬ i - l.length < 1 := by omega
      simp [h4]; omega

set_option maxRecDepth 100000 in
set_option maxHeartbeats 400000 in
theorem wb_room {s : Sink} (hs : s.Law Tryz.prog 542) {b : Nat} {w : World} {F : Nat → Prop} {inner pend : List UInt8} {x : Int} (c : UInt8) (hx : x = (c.toNat : Int)) (h : BufP s b w F inner pend) (hr : pend.length < 4096) (hk : s.okb c = true) :
    Calls Tryz.prog 243 #[.pointer (some ⟨b, 0, none⟩), .int .u8 x] w fun e w' => e = .returned .nilIface ∧ BufPost s b F w inner (pend ++ [c]) w' := by
  obtain ⟨g, cur, Fs, hb, hg, hsz, hn, htk, hok, hI, hbg, hFb, hFg, hF⟩ := h
  have hc0 : w.cell? ⟨b, 0, none⟩ = some .nilIface := cell_at hb 0
  have hc1 : w.cell? ⟨b, 1, none⟩ = some (.slice (some ⟨g, 0, none⟩) 4096 4096) := cell_at hb 1
  have hc2 : w.cell? ⟨b, 2, none⟩ = some (.int .i64 (pend.length : Int)) := cell_at hb 2
  have hfb : w.frozen? ⟨b, 2, none⟩ = false := frozen_at hb 2
  have hfg : w.frozen? ⟨g, pend.length, none⟩ = false := frozen_at hg _
  have hcg : w.cell? ⟨g, pend.length, none⟩ = some (cur[pend.length]'(by omega)) := by rw [cell_at hg, Array.getElem?_eq_getElem]
  have hbg' : ¬ g = b := fun e => hbg e.symm
  have htest : decide ((4096 : Int) - (pend.length : Int) ≤ 0) = false := by simp; omega
  have hn' : (pend.length : Int) < 4096 := by omega
  have HF := Lib.hid hF; clear hF
  have HX := Lib.hid hx; clear hx
  go_enter Tryz.func243, Tryz.ntmps243
  go_wp2_with (go_at_call 239; refine (avail_any b g _ _ ?_ ?_ hc1 hc2).mono ?_; omega; omega; rintro e w1 ⟨rfl, k1, rfl⟩)
  go_region
  go_wp2
  go_ret
  obtain rfl := HX.out
  have hu0 : Upd (fun k => k = b ∨ k = g) w (((w.drewN k1).setCell ⟨g, pend.length, none⟩ (B8 c)).setCell ⟨b, 2, none⟩ (.int .i64 ((pend.length : Int) + 1))).drew :=
    ((((Upd.refl _ w).drewN k1).setCell (.inl (.inr rfl)) _).setCell (.inl (.inl rfl)) _).drew
  have hu : Upd F w (((w.drewN k1).setCell ⟨g, pend.length, none⟩ (B8 c)).setCell ⟨b, 2, none⟩ (.int .i64 ((pend.length : Int) + 1))).drew :=
    hu0.mono fun k hk => (HF.out k).2 (by rcases hk with h | h; exact .inl h; exact .inr (.inl h))
  have hb1 : ((w.drewN k1).setCell ⟨g, pend.length, none⟩ (B8 c)).heap[b]? = some _ := (Below.heap_setCell _ _ _ _ hbg).trans hb
  refine ⟨rfl, F, ⟨g, cur.setIfInBounds pend.length (B8 c), Fs, ?_, ?_, by simpa using hsz, by simp; omega, take_set_snoc htk (by omega), ?_, ?_, hbg, hFb, hFg, HF.out⟩, fun k hk => .inl hk, hu⟩
  · refine (heap_setCell_at _ hb1).trans ?_
    simp
  · exact (Below.heap_setCell _ _ _ _ hbg').trans (heap_setCell_at _ hg)
  · intro d hd
    rcases List.mem_append.1 hd with h | h
    · exact hok d h
    · rw [List.mem_singleton.1 h]; exact hk
  · exact hs.stable hI hu0 fun k hk e => by rcases e with rfl | rfl; exact hFb hk; exact hFg hk

set_option maxRecDepth 100000 in
set_option maxHeartbeats 400000 in
theorem wb_full {s : Sink} (hs : s.Law Tryz.prog 542) {b : Nat} {w : World} {F : Nat → Prop} {inner pend : List UInt8} {x : Int} (c : UInt8) (hx : x = (c.toNat : Int)) (h : BufP s b w F inner pend) (hr : pend.length = 4096) (hk : s.okb c = true) (hl : inner.length + pend.length ≤ LIM) :
    Calls Tryz.prog 243 #[.pointer (some ⟨b, 0, none⟩), .int .u8 x] w fun e w' => e = .returned .nilIface ∧ BufPost s b F w (inner ++ pend) [c] w' := by
  have h0 := h
  obtain ⟨g, cur, Fs, hb, hg, hsz, hn, htk, hok, hI, hbg, hFb, hFg, hF⟩ := h
  have hc0 : w.cell? ⟨b, 0, none⟩ = some .nilIface := cell_at hb 0
  have hc1 : w.cell? ⟨b, 1, none⟩ = some (.slice (some ⟨g, 0, none⟩) 4096 4096) := cell_at hb 1
  have hc2 : w.cell? ⟨b, 2, none⟩ = some (.int .i64 (4096 : Int)) := by rw [cell_at hb 2, hr]; rfl
  clear hb hg htk hok hI hbg hFb hFg hF hn hsz
  have HR := Lib.hid hr; clear hr
  have HX := Lib.hid hx; clear hx
  have H0 := Lib.hid h0; clear h0
  have HFl := Lib.hid (fun k => flush_any hs (H0.out.stable hs (((Upd.refl (fun _ => False) w).drewN k)) (fun _ _ hf => hf)) hl)
  go_enter Tryz.func243, Tryz.ntmps243
  go_wp2_with (first
    | (go_at_call 239; refine (avail_any b g _ _ ?_ ?_ hc1 hc2).mono ?_; omega; omega; rintro e w1 ⟨rfl, k1, rfl⟩)
    | (go_at_call 240; refine (HFl.out _).mono ?_; rintro e w2 ⟨rfl, hP⟩; have HP := Lib.hid hP; clear hP))
  clear hc0 hc1 hc2
  obtain ⟨F1, ⟨g1, cur1, Fs1, hb, hg, hsz, hn, htk, hok, hI, hbg, hFb, hFg, hF⟩, hF1, hU1⟩ := HP.out
  simp only [List.length_nil] at hb htk
  have hc0 : w2.cell? ⟨b, 0, none⟩ = some .nilIface := cell_at hb 0
  have hc1 : w2.cell? ⟨b, 1, none⟩ = some (.slice (some ⟨g1, 0, none⟩) 4096 4096) := cell_at hb 1
  have hc2 : w2.cell? ⟨b, 2, none⟩ = some (.int .i64 0) := cell_at hb 2
  have hfb : w2.frozen? ⟨b, 2, none⟩ = false := frozen_at hb 2
  have hfg : w2.frozen? ⟨g1, 0, none⟩ = false := frozen_at hg _
  have hcg : w2.cell? ⟨g1, 0, none⟩ = some (cur1[0]'(by omega)) := by rw [cell_at hg, Array.getElem?_eq_getElem]
  have hbg' : ¬ g1 = b := fun e => hbg e.symm
  have HF := Lib.hid hF; clear hF
  have HSz := Lib.hid hsz
  have HTk := Lib.hid htk; clear htk
  go_wp2
  go_region
  go_wp2
  go_ret
  obtain rfl := HX.out
  have hu0 : Upd (fun k => k = b ∨ k = g1) w2 ((w2.setCell ⟨g1, 0, none⟩ (B8 c)).setCell ⟨b, 2, none⟩ (.int .i64 1)).drew :=
    (((Upd.refl _ w2).setCell (.inl (.inr rfl)) _).setCell (.inl (.inl rfl)) _).drew
  have hu1 : Upd F1 w2 ((w2.setCell ⟨g1, 0, none⟩ (B8 c)).setCell ⟨b, 2, none⟩ (.int .i64 1)).drew :=
    hu0.mono fun k hk => (HF.out k).2 (by rcases hk with h | h; exact .inl h; exact .inr (.inl h))
  have hu : Upd F w ((w2.setCell ⟨g1, 0, none⟩ (B8 c)).setCell ⟨b, 2, none⟩ (.int .i64 1)).drew :=
    (((Upd.refl F w).drewN _).trans hU1).trans' hu1 hF1
  have hb1 : (w2.setCell ⟨g1, 0, none⟩ (B8 c)).heap[b]? = some _ := (Below.heap_setCell _ _ _ _ hbg).trans hb
  refine ⟨rfl, F1, ⟨g1, cur1.setIfInBounds 0 (B8 c), Fs1, ?_, ?_, by simpa using HSz.out, by simp, ?_, ?_, ?_, hbg, hFb, hFg, HF.out⟩, hF1, hu⟩
  · refine (heap_setCell_at _ hb1).trans ?_
    simp
  · exact (Below.heap_setCell _ _ _ _ hbg').trans (heap_setCell_at _ hg)
  · exact take_set_snoc (l := []) HTk.out (by have := HSz.out; simp; omega)
  · intro d hd
    rw [List.mem_singleton.1 hd]; exact hk
  · exact hs.stable hI hu0 fun k hk e => by rcases e with rfl | rfl; exact hFb hk; exact hFg hk
/-- WriteByte: whatever is in the buffer. -/
theorem wb_any {s : Sink} (hs : s.Law Tryz.prog 542) {b : Nat} {w : World} {F : Nat → Prop} {l : List UInt8} {x : Int} (c : UInt8) (hx : x = (c.toNat : Int)) (h : BufW s b w F l) (hk : s.okb c = true) (hl : l.length < LIM) :
    Calls Tryz.prog 243 #[.pointer (some ⟨b, 0, none⟩), .int .u8 x] w fun e w' => e = .returned .nilIface ∧ ∃ F', BufW s b w' F' (l ++ [c]) ∧ (∀ k, F' k → F k ∨ w.heap.size ≤ k) ∧ Upd F w w' := by
  obtain ⟨inner, pend, hp, rfl⟩ := h
  rw [List.length_append] at hl
  by_cases hr : pend.length = 4096
  · refine (wb_full hs c hx hp hr hk (by omega)).mono ?_
    rintro e w' ⟨rfl, F', h1, h2, h3⟩
    exact ⟨rfl, F', ⟨_, _, h1, by simp⟩, h2, h3⟩
  · have hn : pend.length ≤ 4096 := by obtain ⟨g, cur, Fs, _, _, _, h, _⟩ := hp; exact h
    refine (wb_room hs c hx hp (by omega) hk).mono ?_
    rintro e w' ⟨rfl, F', h1, h2, h3⟩
    exact ⟨rfl, F', ⟨_, _, h1, by simp⟩, h2, h3⟩
end Go.Proofs.YtdfgcopelfmcmaaGreatFmt
