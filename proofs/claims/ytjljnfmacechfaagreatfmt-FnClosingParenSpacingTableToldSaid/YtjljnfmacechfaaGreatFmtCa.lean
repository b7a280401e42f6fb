/-
  bytes.Buffer behind a bufio.Writer: what the Printer asks of it; Reset.
-/
import Derived.Test.YtjljnfmacechfaaGreatFmtMf
import Derived.Test.YtjljnfmacechfaaGreatFmtBufE
import Derived.Test.YtjljnfmacechfaaGreatFmtBufN
import Derived.Test.YtjljnfmacechfaaGreatFmtSbbF
namespace Go.Proofs.YtjljnfmacechfaaGreatFmt
open Go.RowKit

theorem bb_swr (k : Nat) : (bbS k).SWr Tryz.prog 529 183 where
  ta := fun w => by kernel_rfl
  meth := fun w => by kernel_rfl
  ahead := fun w => by kernel_rfl
  enters := fun args w => by kernel_rfl
  wstr := fun t h _ hl => bb_writeString t h hl

theorem bb_wstr (k : Nat) : (bbS k).WStr Tryz.prog := by
  intro b w F l s h hk hl
  exact ws_sw (bb_law k) (bb_swr k) s h hk hl

theorem bb_tok (k : Nat) : TOk (bbS k) := ⟨bb_law k, bb_wstr k, fun _ _ => rfl⟩

theorem bb_nobw (k : Nat) : (bbS k).NoBW Tryz.prog := fun w => by kernel_rfl

theorem bb_new {w : World} {k : Nat} (h : w.heap[k]? = some (.cells #[.slice none 0 0, .int .i64 0, .int .i8 0] 84 (0, 0))) : bbI k w (fun j => j = k) [] :=
  ⟨_, _, h, Row.nil w, by simp [Value.ownBlock], fun j => by simp [Value.ownBlock]⟩

theorem bbI.self {b : Nat} {w : World} {F : Nat → Prop} {l : List UInt8} (h : bbI b w F l) : F b := by
  obtain ⟨v, lr, hb, hv, hne, hF⟩ := h
  exact (hF b).2 (.inl rfl)

set_option maxHeartbeats 1000000 in
set_option maxRecDepth 100000 in
theorem bb_reset {b : Nat} {w : World} {F : Nat → Prop} {l : List UInt8} (h : bbI b w F l) :
    Calls Tryz.prog 23 #[.pointer (some ⟨b, 0, none⟩)] w fun e w' => e = .returned (.tuple #[]) ∧ bbI b w' F [] ∧ Upd (fun k => k = b) w w' := by
  obtain ⟨v, lr, hb, hv, hne, hF⟩ := h
  have c0 : w.cell? ⟨b, 0, none⟩ = some v := cell_at hb 0
  have f0 : w.frozen? ⟨b, 0, none⟩ = false := frozen_at hb 0
  obtain ⟨vo, vc, hvf⟩ := hv.form
  have hb1 := heap_setCell_at (i := 0) (.slice vo 0 vc) hb
  have c1 : (w.setCell ⟨b, 0, none⟩ (.slice vo 0 vc)).cell? ⟨b, 1, none⟩ = some (.int .i64 0) := cell_at hb1 1
  have f1 : (w.setCell ⟨b, 0, none⟩ (.slice vo 0 vc)).frozen? ⟨b, 1, none⟩ = false := frozen_at hb1 1
  have hb2 := heap_setCell_at (i := 1) (.int .i64 0) hb1
  have c2 : ((w.setCell ⟨b, 0, none⟩ (.slice vo 0 vc)).setCell ⟨b, 1, none⟩ (.int .i64 0)).cell? ⟨b, 2, none⟩ = some (.int .i8 lr) := cell_at hb2 2
  have f2 : ((w.setCell ⟨b, 0, none⟩ (.slice vo 0 vc)).setCell ⟨b, 1, none⟩ (.int .i64 0)).frozen? ⟨b, 2, none⟩ = false := frozen_at hb2 2
  subst hvf
  have hob : ∀ n m, (Value.slice vo n vc).ownBlock = (Value.slice vo m vc).ownBlock := fun n m => by cases vo <;> rfl
  have hend : bbI b (((w.setCell ⟨b, 0, none⟩ (.slice vo 0 vc)).setCell ⟨b, 1, none⟩ (.int .i64 0)).setCell ⟨b, 2, none⟩ (.int .i8 0)) F [] := by
    refine ⟨.slice vo 0 vc, 0, (heap_setCell_at _ hb2).trans (by simp), ?_, ?_, ?_⟩
    · refine ⟨by simp, ?_⟩
      rcases hv.2 with ⟨h1, h0⟩ | ⟨g, cap, cur, h1, h2, hg, hnc, hcm, hcs, htk⟩
      · injection h1 with h1 h3 h4
        subst h1 h4
        exact .inl ⟨rfl, rfl⟩
      · injection h1 with h1 h3 h4
        subst h1 h4
        have hgb : ¬ g = b := fun e => hne (by rw [e]; rfl)
        exact .inr ⟨g, _, cur, rfl, h2, (Below.heap_setCell _ _ _ _ hgb).trans ((Below.heap_setCell _ _ _ _ hgb).trans ((Below.heap_setCell _ _ _ _ hgb).trans hg)), Nat.zero_le _, hcm, hcs, by simp⟩
    · rw [hob 0 l.length]; exact hne
    · intro j
      rw [hob 0 l.length]
      exact hF j
  have hu : Upd (fun k => k = b) w (((w.setCell ⟨b, 0, none⟩ (.slice vo 0 vc)).setCell ⟨b, 1, none⟩ (.int .i64 0)).setCell ⟨b, 2, none⟩ (.int .i8 0)) :=
    (((Upd.refl (fun k => k = b) w).setCell (p := ⟨b, 0, none⟩) (.inl rfl) _).setCell (p := ⟨b, 1, none⟩) (.inl rfl) _).setCell (p := ⟨b, 2, none⟩) (.inl rfl) _
  have HU := Lib.hid (And.intro hend hu)
  clear hb hb1 hb2 hv hne hF hu hend
  go_enter Tryz.func23, Tryz.ntmps23
  go_wp2
  go_end0
  exact ⟨rfl, HU.out⟩
end Go.Proofs.YtjljnfmacechfaaGreatFmt
