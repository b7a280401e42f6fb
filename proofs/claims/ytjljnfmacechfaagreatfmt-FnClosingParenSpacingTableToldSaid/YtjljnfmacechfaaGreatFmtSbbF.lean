/-
  bytes.Buffer: WriteString.
-/
import Derived.Test.YtjljnfmacechfaaGreatFmtSbbE
namespace Go.Proofs.YtjljnfmacechfaaGreatFmt
open Go.RowKit

set_option maxHeartbeats 4000000 in
set_option maxRecDepth 100000 in
theorem bb_writeString {b : Nat} {w : World} {F : Nat → Prop} {l : List UInt8} (t : ByteArray) (h : bbI b w F l) (hlim : l.length + t.size ≤ LIM) :
    Calls Tryz.prog 183 #[.pointer (some ⟨b, 0, none⟩), .string t] w fun e w' => e = .returned (.tuple #[.int .i64 (t.size : Int), .nilIface]) ∧ ∃ F', bbI b w' F' (l ++ t.data.toList) ∧ (∀ k, F' k → F k ∨ w.heap.size ≤ k) ∧ Upd F w w' := by
  obtain ⟨v, lr, hb, hv, hne, hF⟩ := h
  have hts : t.data.toList.length = t.size := rfl
  have hLIM : LIM = 1099511627776 := rfl
  have hFb : F b := (hF b).2 (.inl rfl)
  have hu0 : Upd F w (w.setCell ⟨b, 2, none⟩ (.int .i8 0)) := (Upd.refl F w).setCell (p := ⟨b, 2, none⟩) (.inl hFb) _
  have hub : Upd (fun k => k = b) w (w.setCell ⟨b, 2, none⟩ (.int .i8 0)) := (Upd.refl (fun k => k = b) w).setCell (p := ⟨b, 2, none⟩) (.inl rfl) _
  have hb0 : (w.setCell ⟨b, 2, none⟩ (.int .i8 0)).heap[b]? = some (.cells #[v, .int .i64 0, .int .i8 0] 84 (0, 0)) := (heap_setCell_at _ hb).trans (by simp)
  have hv0 : Row (w.setCell ⟨b, 2, none⟩ (.int .i8 0)) v l := hv.stable hub fun k hk e => hne (by rw [hk, e])
  have c2 : w.cell? ⟨b, 2, none⟩ = some (.int .i8 lr) := cell_at hb 2
  have f2 : w.frozen? ⟨b, 2, none⟩ = false := frozen_at hb 2
  have c0 : (w.setCell ⟨b, 2, none⟩ (.int .i8 0)).cell? ⟨b, 0, none⟩ = some v := cell_at hb0 0
  have f0 : (w.setCell ⟨b, 2, none⟩ (.int .i8 0)).frozen? ⟨b, 0, none⟩ = false := frozen_at hb0 0
  have hsz0 : (w.setCell ⟨b, 2, none⟩ (.int .i8 0)).heap.size = w.heap.size := by simp
  obtain ⟨W, hW⟩ : ∃ W, W = w.setCell ⟨b, 2, none⟩ (.int .i8 0) := ⟨_, rfl⟩
  rw [← hW] at hb0 hv0 c0 f0 hu0 hub hsz0
  obtain ⟨vo, vc, hvf⟩ := hv.form
  have hle : l.length ≤ vc ∧ vc ≤ maxLen := by
    rcases hv.2 with ⟨h1, h0⟩ | ⟨g, cap, cur, h1, _, hg, hnc, hcm, hcs, htk⟩
    · rw [h1] at hvf; injection hvf with h2 h3 h4; subst h4; exact ⟨by omega, by unfold maxLen; omega⟩
    · rw [h1] at hvf; injection hvf with h2 h3 h4; subst h4; exact ⟨hnc, hcm⟩
  have HW := Lib.hid hW
  have HTs := Lib.hid hts; clear hts
  have HV0 := Lib.hid hv0
  have HB0 := Lib.hid hb0
  have HU0 := Lib.hid hu0
  have HF := Lib.hid hF
  clear hW hv0 hb0 hub hu0 hF hv hb hne
  by_cases hroom : t.size ≤ vc - l.length
  · have HT := Lib.hid (Tryz.Buffer_tryGrow_room b vo l.length vc t.size W (hvf ▸ c0) f0 hle.1 hle.2 hroom)
    rcases HV0.out.2 with ⟨hnil, h0⟩ | ⟨g, cap, cur, hrow, _, hg, hnc, hcm, hcs, htk⟩
    · obtain rfl := List.length_eq_zero_iff.1 h0
      obtain rfl : t = ⟨#[]⟩ := by
        rw [hnil] at hvf
        injection hvf with _ _ h4
        subst h4
        have h0 : t.size = 0 := by simpa using hroom
        exact ByteArray.ext (Array.eq_empty_of_size_eq_zero h0)
      subst hnil
      injection hvf with h2 h3 h4
      subst h2
      subst h4
      have hb1 := heap_setCell_at (i := 0) (.slice none (([] : List UInt8).length + (⟨#[]⟩ : ByteArray).size) 0) HB0.out
      have d0 : (W.setCell ⟨b, 0, none⟩ (.slice none 0 0)).cell? ⟨b, 0, none⟩ = some (.slice none 0 0) := cell_at hb1 0
      have hcp : (Builtin.copy_ #[22, 9] 3 #[.slice none 0 0, .string ⟨#[]⟩]).run Tryz.prog (W.setCell ⟨b, 0, none⟩ (.slice none 0 0)) = .ok (.int .i64 0) (W.setCell ⟨b, 0, none⟩ (.slice none 0 0)) := by
        obtain ⟨i, hi⟩ : ∃ i, Tryz.prog.info? 5 = some i := ⟨_, rfl⟩
        simp [Builtin.copy_, run_underlying Tryz.underlying22, Builtin.lenOf, Builtin.firstCells, sizeOf, typeInfo, hi]
        rfl
      have HB1 := Lib.hid hb1
      clear hb1 hle hroom hsz0 hlim c0 f0 h3 h0
      go_enter Tryz.func183, Tryz.ntmps183
      go_wp2_with (go_at_call 184; rw [← HW.out]; refine HT.out.mono ?_; rintro e w1 ⟨rfl, rfl⟩)
      go_ret2
      refine ⟨rfl, F, ⟨_, 0, HB1.out.trans (by first | (simp; done) | (simp; rfl)), Row.nil _, by simp [Value.ownBlock], fun k => by simpa [Value.ownBlock] using HF.out k⟩, fun k hk => .inl hk, HU0.out.setCell (p := ⟨b, 0, none⟩) (.inl hFb) _⟩
    · subst hrow
      injection hvf with h2 h3 h4
      subst h2
      subst h4
      have hbg : b ≠ g := fun e => by
        subst e
        rw [HB0.out] at hg
        injection hg with h
        injection h with h5 h6
        exact absurd h6 (by decide)
      have hopen : BbOpen b w F l t.data.toList.length (W.setCell ⟨b, 0, none⟩ (.slice (some ⟨g, 0, none⟩) (l.length + t.size) cap)) g cap cur :=
        ⟨(heap_setCell_at _ HB0.out).trans (by simp), (Below.heap_setCell _ _ _ _ (Ne.symm hbg)).trans hg, by simpa using hcs, hcm, by rw [HTs.out]; have := hle.1; omega, by simpa using htk, .inl ((HF.out g).2 (.inr rfl)), hbg, HU0.out.setCell (p := ⟨b, 0, none⟩) (.inl hFb) _⟩
      have HO := Lib.hid hopen
      have hcp := fun (dp : Option Addr) (dCap : Nat) (hdp : 0 < t.size → 0 < t.size → dp = some ⟨g, l.length, none⟩) => by
        have h := run_copy_str (P := Tryz.prog) (W.setCell ⟨b, 0, none⟩ (.slice (some ⟨g, 0, none⟩) (l.length + t.size) cap)) 22 9 3 5 Tryz.underlying22 (by kernel_rfl) (s := t) (g := g) (off := l.length) (dLen := t.size) (dCap := dCap) (dp := dp) hopen.2.1
          hdp (by rw [Nat.min_self]; have := hopen.2.2.1; omega)
        rw [Nat.min_self, List.take_of_length_le (Nat.le_of_eq HTs.out)] at h
        exact h
      have d0 : (W.setCell ⟨b, 0, none⟩ (.slice (some ⟨g, 0, none⟩) (l.length + t.size) cap)).cell? ⟨b, 0, none⟩ = some (.slice (some ⟨g, 0, none⟩) (l.length + t.size) cap) := cell_at hopen.1 0
      clear hopen hg htk hcs
      by_cases hcl : cap = l.length
      · have hcp' := hcp (some ⟨g, 0, none⟩) 0 (fun _ _ => by omega)
        clear hcp
        subst hcl
        go_enter Tryz.func183, Tryz.ntmps183
        go_wp2_with (go_at_call 184; rw [← HW.out]; refine HT.out.mono ?_; rintro e w1 ⟨rfl, rfl⟩)
        go_ret2
        exact ⟨rfl, HO.out.done hFb rfl⟩
      · have hcp' := hcp (some ⟨g, l.length, none⟩) (cap - l.length) (fun _ _ => rfl)
        clear hcp
        go_enter Tryz.func183, Tryz.ntmps183
        go_wp2_with (go_at_call 184; rw [← HW.out]; refine HT.out.mono ?_; rintro e w1 ⟨rfl, rfl⟩)
        go_ret2
        exact ⟨rfl, HO.out.done hFb rfl⟩
  · have HT := Lib.hid (Tryz.Buffer_tryGrow_none b vo l.length vc t.size W (hvf ▸ c0) hle.1 hle.2 (by omega))
    obtain ⟨Q1, HQ1, HG⟩ := callsVar (bb_grow_any (F := F) (n := t.size) HB0.out HV0.out hFb (by omega) (fun ao' c' e => by rw [hvf] at e; injection e with _ _ h; subst h; omega) hlim)
    subst hvf
    go_enter Tryz.func183, Tryz.ntmps183
    go_wp2_with (first
      | (go_at_call 184; rw [← HW.out]; refine HT.out.mono ?_; rintro e w1 ⟨rfl, rfl⟩)
      | (go_at_call 185; refine HG.out.mono ?_))
    rintro e w2 hq
    obtain ⟨rfl, g, cap, cur, hopen⟩ := HQ1.out e w2 hq
    clear hq
    have hO : BbOpen b w F l t.data.toList.length w2 g cap cur := by
      obtain ⟨h1, h2, h3, h4, h5, h6, h7, h8, h9⟩ := hopen
      exact ⟨h1, h2, h3, h4, h5, h6, h7.imp id (fun h => by omega), h8, HU0.out.trans h9⟩
    have HO := Lib.hid hO
    have hcl : ¬ cap = l.length := by have := hopen.2.2.2.2.1; omega
    have hlc : l.length + t.size ≤ cap := hopen.2.2.2.2.1
    have hcm : cap ≤ maxLen := hopen.2.2.2.1
    have hcp : (Builtin.copy_ #[22, 9] 3 #[.slice (some ⟨g, l.length, none⟩) t.size (cap - l.length), .string t]).run Tryz.prog w2 = .ok (.int .i64 (t.size : Int)) (w2.setRow g (laid cur l.length t.data.toList)) := by
      have h := run_copy_str (P := Tryz.prog) w2 22 9 3 5 Tryz.underlying22 (by kernel_rfl) (s := t) (g := g) (off := l.length) (dLen := t.size) (dCap := cap - l.length) (dp := some ⟨g, l.length, none⟩) hopen.2.1
        (fun _ _ => rfl) (by rw [Nat.min_self]; have := hopen.2.2.1; omega)
      rw [Nat.min_self, List.take_of_length_le (Nat.le_of_eq HTs.out)] at h
      exact h
    have d0 : w2.cell? ⟨b, 0, none⟩ = some (.slice (some ⟨g, 0, none⟩) (l.length + t.size) cap) := cell_at hopen.1 0
    clear hopen hO
    go_wp2
    go_ret2
    exact ⟨rfl, HO.out.done hFb rfl⟩

end Go.Proofs.YtjljnfmacechfaaGreatFmt
