/-
  strings.Builder as a lawful sink.
-/
import Derived.Test.YtnhmgjgdkcgmfaaGreatFmtMa
import Derived.Test.YtnhmgjgdkcgmfaaGreatFmtMb
import Derived.Lib.Builder
import Derived.Laws.Externs
namespace Go.Proofs.YtnhmgjgdkcgmfaaGreatFmt
open Go.RowKit

/-- A strings.Builder at block b that holds l; the blocks of F are its own and its row's. -/
def sbI (b : Nat) (w : World) (F : Nat → Prop) (l : List UInt8) : Prop :=
  ∃ p v, w.heap[b]? = some (.cells #[p, v] 53 (0, 0)) ∧ (p = .pointer none ∨ p = .pointer (some ⟨b, 0, none⟩)) ∧ Row w v l ∧ v.ownBlock ≠ some b ∧ ∀ k, F k ↔ k = b ∨ v.ownBlock = some k

set_option maxHeartbeats 1000000 in
set_option maxRecDepth 100000 in
theorem sb_copyCheck (b : Nat) (p v : Value) (w : World) (hb : w.heap[b]? = some (.cells #[p, v] 53 (0, 0))) (hp : p = .pointer none ∨ p = .pointer (some ⟨b, 0, none⟩)) :
    Calls Tryz.prog 172 #[.pointer (some ⟨b, 0, none⟩)] w fun e w' => e = .returned (.tuple #[]) ∧ w'.heap[b]? = some (.cells #[.pointer (some ⟨b, 0, none⟩), v] 53 (0, 0)) ∧ Upd (fun k => k = b) w w' := by
  obtain ⟨j, hj, hjs⟩ : ∃ j, Tryz.prog.info? 53 = some j ∧ j.size = 2 := ⟨_, rfl, rfl⟩
  have hsh : w.shape? b = some (53, 2) := by simp [World.shape?, hb]
  have f0 : w.frozen? ⟨b, 0, none⟩ = false := frozen_at hb 0
  rcases hp with rfl | rfl
  · have c0 : w.cell? ⟨b, 0, none⟩ = some (.pointer none) := cell_at hb 0
    have HB := Lib.hid hb
    clear hb
    go_enter Tryz.func172, Tryz.ntmps172
    go_wp2
    rw [Lib.run_to_unsafe w ⟨b, 0, none⟩ Tryz.underlying51 Tryz.underlying385 hj (by rw [hjs]; decide) hsh (Nat.zero_lt_succ 1)]
    simp only [Result.andThen]
    rw [Oper.upon_value]
    go_wp2
    rw [run_callFunc_extern Tryz.func188 (by kernel_rfl) (by kernel_rfl) (by kernel_rfl) (e := Extern.AbiNoEscape.same) (by kernel_rfl)]
    rw [Lib.run_noEscape]
    simp only [Result.andThen]
    rw [Oper.upon_value]
    go_wp2
    rw [Lib.run_from_unsafe w ⟨b, 0, none⟩ Tryz.underlying385 Tryz.underlying51 hj hsh (by kernel_rfl)]
    simp only [Result.andThen]
    rw [Oper.upon_value]
    go_wp2
    go_end0
    refine ⟨rfl, ?_, (Upd.refl (fun k => k = b) w).setCell (p := ⟨b, 0, none⟩) (.inl rfl) _⟩
    refine (heap_setCell_at _ HB.out).trans ?_
    simp
  · have c0 : w.cell? ⟨b, 0, none⟩ = some (.pointer (some ⟨b, 0, none⟩)) := cell_at hb 0
    have HB := Lib.hid hb
    clear hb
    go_enter Tryz.func172, Tryz.ntmps172
    go_wp2
    rw [Lib.run_neq_ptr_same w _ Tryz.underlying51 hj]
    go_wp2
    go_end0
    exact ⟨rfl, HB.out, Upd.refl _ w⟩

set_option maxHeartbeats 1000000 in
set_option maxRecDepth 100000 in
theorem sb_write {b : Nat} {w : World} {F : Nat → Prop} {l d : List UInt8} {x : Value} (h : sbI b w F l) (hx : SliceRd w F x d) (hlim : l.length + d.length ≤ LIM) :
    Calls Tryz.prog 220 #[.pointer (some ⟨b, 0, none⟩), x] w fun e w' => e = .returned (.tuple #[.int .i64 (d.length : Int), .nilIface]) ∧ ∃ F', sbI b w' F' (l ++ d) ∧ (∀ k, F' k → F k ∨ w.heap.size ≤ k) ∧ Upd F w w' := by
  obtain ⟨p, v, hb, hp, hv, hne, hF⟩ := h
  obtain ⟨ao, c, rfl⟩ : ∃ ao c, x = .slice ao d.length c := by
    rcases hx with ⟨rfl, rfl⟩ | ⟨a, c, rfl, _⟩
    · exact ⟨none, 0, rfl⟩
    · exact ⟨some a, c, rfl⟩
  have HC := Lib.hid (sb_copyCheck b p v w hb hp)
  have HX := Lib.hid hx; clear hx
  have HF := Lib.hid hF; clear hF
  have HV := Lib.hid hv; clear hv
  have HN := Lib.hid hne; clear hne
  have HB := Lib.hid hb; clear hb
  have HP := Lib.hid hp; clear hp
  go_enter Tryz.func220, Tryz.ntmps220
  go_wp2_with (go_at_call 172; refine HC.out.mono ?_)
  rintro e w1 ⟨rfl, hb1, hu1⟩
  have hF1 : ∀ k, (fun k => k = b) k → F k := fun k hk => (HF.out k).2 (.inl hk)
  obtain ⟨v', w2, hr, ho, hg, hf⟩ := append_row (HV.out.stable hu1 fun k hk e => HN.out (by rw [hk, e])) (HX.out.stable hu1 hF1) hlim
  obtain ⟨ao2, cap2, rfl⟩ : ∃ ao c, v' = .slice ao (l.length + d.length) c := by rw [← List.length_append]; exact ho.form
  have HB1 := Lib.hid hb1
  have c1 : w1.cell? ⟨b, 1, none⟩ = some v := cell_at hb1 1
  have hb2 : w2.heap[b]? = some (.cells #[.pointer (some ⟨b, 0, none⟩), v] 53 (0, 0)) := (hg.block b (heap_lt hb1) fun e => HN.out e.symm).trans hb1
  have d1 : w2.cell? ⟨b, 1, none⟩ = some v := cell_at hb2 1
  have f1 : w2.frozen? ⟨b, 1, none⟩ = false := frozen_at hb2 1
  have HB2 := Lib.hid hb2
  have HO := Lib.hid ho
  have HG := Lib.hid hg
  have HFr := Lib.hid hf
  have HU := Lib.hid hu1
  have HR := Lib.hid hr
  clear hF1 ho hg hf hu1 hb1 hb2 hr
  go_wp2_with (at_builtin; refine wpList_append_run rfl _ _ _ rfl rfl rfl HR.out ?_)
  go_ret2
  have hbn : (Value.slice ao2 (l.length + d.length) cap2).ownBlock ≠ some b := fun e => by
    rcases HFr.out b e with h1 | h1
    · exact HN.out h1
    · have := heap_lt HB1.out; omega
  have hu : Upd F w (w2.setCell ⟨b, 1, none⟩ (.slice ao2 (l.length + d.length) cap2)) :=
    ((HU.out.mono fun k hk => (HF.out k).2 (.inl hk)).grown HG.out fun k hk => .inl ((HF.out k).2 (.inr hk))).setCell (p := ⟨b, 1, none⟩) (.inl ((HF.out b).2 (.inl rfl))) _
  refine ⟨rfl, fun k => k = b ∨ (Value.slice ao2 (l.length + d.length) cap2).ownBlock = some k, ⟨_, _, ?_, .inr rfl, HO.out.stable (F := fun k => k = b) ((Upd.refl (fun k => k = b) w2).setCell (p := ⟨b, 1, none⟩) (.inl rfl) _) (fun k hk e => hbn (by rw [hk, e])), hbn, fun k => Iff.rfl⟩, ?_, hu⟩
  · refine (heap_setCell_at _ HB2.out).trans ?_
    simp
  · intro k hk
    rcases hk with rfl | hk
    · exact .inl ((HF.out _).2 (.inl rfl))
    · rcases HFr.out k hk with h1 | h1
      · exact .inl ((HF.out k).2 (.inr h1))
      · have := HU.out.size
        exact .inr (by omega)

theorem sb_law (b : Nat) : Sink.Law Tryz.prog 531 ⟨51, ⟨b, 0, none⟩, 220, fun _ => true, sbI b⟩ where
  meth := fun w => by kernel_rfl
  ahead := fun w => by kernel_rfl
  enters := fun args w => by kernel_rfl
  stable := by
    rintro w w' F G l ⟨p, v, hb, hp, hv, hne, hF⟩ hu hd
    exact ⟨p, v, hu.heap hb (hd b ((hF b).2 (.inl rfl))), hp, hv.stable hu fun k hk => hd k ((hF k).2 (.inr hk)), hne, hF⟩
  lt := by
    rintro w F l ⟨p, v, hb, hp, hv, hne, hF⟩ k hk
    rcases (hF k).1 hk with rfl | hk
    · exact heap_lt hb
    · exact (hv.lt k hk).2
  write := fun h hx _ hlim => sb_write h hx hlim
end Go.Proofs.YtnhmgjgdkcgmfaaGreatFmt
