/-
  n010_39: the other options of a Printer; the law's own sink.
-/
import Derived.Test.YtlblpdbldnnllaaGreatFmtNew
namespace Go.Proofs.YtlblpdbldnnllaaGreatFmt
open Go.RowKit

def optBn (v : Bool) (s : PS) : PS := { s with bnl := v }
def optSw (v : Bool) (s : PS) : PS := { s with swt := v }
def optSr (v : Bool) (s : PS) : PS := { s with spr := v }
def optIn (k : Nat) (s : PS) : PS := { s with k := k }

set_option maxRecDepth 100000 in
set_option maxHeartbeats 1000000 in
theorem bn_opt (box : Nat) (v : Bool) : OptLaw 41 box (.bool v) (optBn v) := by
  intro pb b tb s w O h hb hO
  have hp := h.pcell
  have c6 : w.cell? ⟨pb, 6, none⟩ = some (.bool s.bnl) := hp.at 6
  have f6 := hp.fr 6
  have HA := Lib.hid h
  clear h hp
  go_enter Tryz.func41, Tryz.ntmps41
  go_wp2
  go_end0
  have hu : Upd (fun k => k = pb) w (w.setCell ⟨pb, 6, none⟩ (.bool v)) := (Upd.refl (fun k => k = pb) w).setCell (p := ⟨pb, 6, none⟩) (.inl rfl) _
  exact ⟨rfl, HA.out.chg (s' := optBn v s) hu (HA.out.pcell.set rfl) HA.out.lin, hu⟩

set_option maxRecDepth 100000 in
set_option maxHeartbeats 1000000 in
theorem sw_opt (box : Nat) (v : Bool) : OptLaw 42 box (.bool v) (optSw v) := by
  intro pb b tb s w O h hb hO
  have hp := h.pcell
  have c7 : w.cell? ⟨pb, 7, none⟩ = some (.bool s.swt) := hp.at 7
  have f7 := hp.fr 7
  have HA := Lib.hid h
  clear h hp
  go_enter Tryz.func42, Tryz.ntmps42
  go_wp2
  go_end0
  have hu : Upd (fun k => k = pb) w (w.setCell ⟨pb, 7, none⟩ (.bool v)) := (Upd.refl (fun k => k = pb) w).setCell (p := ⟨pb, 7, none⟩) (.inl rfl) _
  exact ⟨rfl, HA.out.chg (s' := optSw v s) hu (HA.out.pcell.set rfl) HA.out.lin, hu⟩

set_option maxRecDepth 100000 in
set_option maxHeartbeats 1000000 in
theorem sr_opt (box : Nat) (v : Bool) : OptLaw 43 box (.bool v) (optSr v) := by
  intro pb b tb s w O h hb hO
  have hp := h.pcell
  have c8 : w.cell? ⟨pb, 8, none⟩ = some (.bool s.spr) := hp.at 8
  have f8 := hp.fr 8
  have HA := Lib.hid h
  clear h hp
  go_enter Tryz.func43, Tryz.ntmps43
  go_wp2
  go_end0
  have hu : Upd (fun k => k = pb) w (w.setCell ⟨pb, 8, none⟩ (.bool v)) := (Upd.refl (fun k => k = pb) w).setCell (p := ⟨pb, 8, none⟩) (.inl rfl) _
  exact ⟨rfl, HA.out.chg (s' := optSr v s) hu (HA.out.pcell.set rfl) HA.out.lin, hu⟩

set_option maxRecDepth 100000 in
set_option maxHeartbeats 1000000 in
theorem in_opt (box : Nat) (v : Nat) : OptLaw 40 box (.int .u64 (v : Int)) (optIn v) := by
  intro pb b tb s w O h hb hO
  have hp := h.pcell
  have c5 : w.cell? ⟨pb, 5, none⟩ = some (.int .u64 (s.k : Int)) := hp.at 5
  have f5 := hp.fr 5
  have HA := Lib.hid h
  clear h hp
  go_enter Tryz.func40, Tryz.ntmps40
  go_wp2
  go_end0
  have hu : Upd (fun k => k = pb) w (w.setCell ⟨pb, 5, none⟩ (.int .u64 (v : Int))) := (Upd.refl (fun k => k = pb) w).setCell (p := ⟨pb, 5, none⟩) (.inl rfl) _
  exact ⟨rfl, HA.out.chg (s' := optIn v s) hu (HA.out.pcell.set rfl) HA.out.lin, hu⟩

set_option maxRecDepth 100000 in
theorem mk_bn (v : Bool) (w : World) : Calls Tryz.prog 18 #[.bool v] w fun e w' => e = .returned (.func (.func 41) #[] #[.pointer (some ⟨w.heap.size, 0, none⟩)]) ∧ w' = w.alloc (.cells #[.bool v] 4) := by
  go_enter Tryz.func18, Tryz.ntmps18
  go_wp2
  go_ret
  exact ⟨rfl, rfl⟩
set_option maxRecDepth 100000 in
theorem mk_sw (v : Bool) (w : World) : Calls Tryz.prog 19 #[.bool v] w fun e w' => e = .returned (.func (.func 42) #[] #[.pointer (some ⟨w.heap.size, 0, none⟩)]) ∧ w' = w.alloc (.cells #[.bool v] 4) := by
  go_enter Tryz.func19, Tryz.ntmps19
  go_wp2
  go_ret
  exact ⟨rfl, rfl⟩
set_option maxRecDepth 100000 in
theorem mk_sr (v : Bool) (w : World) : Calls Tryz.prog 20 #[.bool v] w fun e w' => e = .returned (.func (.func 43) #[] #[.pointer (some ⟨w.heap.size, 0, none⟩)]) ∧ w' = w.alloc (.cells #[.bool v] 4) := by
  go_enter Tryz.func20, Tryz.ntmps20
  go_wp2
  go_ret
  exact ⟨rfl, rfl⟩
set_option maxRecDepth 100000 in
theorem mk_in (v : Nat) (w : World) : Calls Tryz.prog 17 #[.int .u64 (v : Int)] w fun e w' => e = .returned (.func (.func 40) #[] #[.pointer (some ⟨w.heap.size, 0, none⟩)]) ∧ w' = w.alloc (.cells #[.int .u64 (v : Int)] 26) := by
  go_enter Tryz.func17, Tryz.ntmps17
  go_wp2
  go_ret
  exact ⟨rfl, rfl⟩

/-- The law's own sink at block b holds l; the blocks of F are its own and its row's. -/
def zsI (b : Nat) (w : World) (F : Nat → Prop) (l : List UInt8) : Prop :=
  ∃ v, w.heap[b]? = some (.cells #[v] 39 (0, 0)) ∧ Row w v l ∧ v.ownBlock ≠ some b ∧ ∀ k, F k ↔ k = b ∨ v.ownBlock = some k

set_option maxHeartbeats 1000000 in
set_option maxRecDepth 100000 in
theorem zs_write {b : Nat} {w : World} {F : Nat → Prop} {l d : List UInt8} {x : Value} (h : zsI b w F l) (hx : SliceRd w F x d) (hlim : l.length + d.length ≤ LIM) :
    Calls Tryz.prog 233 #[.pointer (some ⟨b, 0, none⟩), x] w fun e w' => e = .returned (.tuple #[.int .i64 (d.length : Int), .nilIface]) ∧ ∃ F', zsI b w' F' (l ++ d) ∧ (∀ k, F' k → F k ∨ w.heap.size ≤ k) ∧ Upd F w w' := by
  obtain ⟨v, hb, hv, hne, hF⟩ := h
  obtain ⟨ao, c, rfl⟩ : ∃ ao c, x = .slice ao d.length c := by
    rcases hx with ⟨rfl, rfl⟩ | ⟨a, c, rfl, _⟩
    · exact ⟨none, 0, rfl⟩
    · exact ⟨some a, c, rfl⟩
  obtain ⟨v', w2, hr, ho, hg, hf⟩ := append_row hv hx hlim
  obtain ⟨ao2, cap2, rfl⟩ : ∃ ao c, v' = .slice ao (l.length + d.length) c := by rw [← List.length_append]; exact ho.form
  have c0 : w.cell? ⟨b, 0, none⟩ = some v := cell_at hb 0
  have hb2 : w2.heap[b]? = some (.cells #[v] 39 (0, 0)) := (hg.block b (heap_lt hb) fun e => hne e.symm).trans hb
  have d0 : w2.cell? ⟨b, 0, none⟩ = some v := cell_at hb2 0
  have f0 : w2.frozen? ⟨b, 0, none⟩ = false := frozen_at hb2 0
  have hbn : (Value.slice ao2 (l.length + d.length) cap2).ownBlock ≠ some b := fun e => by
    rcases hf b e with h1 | h1
    · exact hne h1
    · have := heap_lt hb; omega
  have hu : Upd F w (w2.setCell ⟨b, 0, none⟩ (.slice ao2 (l.length + d.length) cap2)) :=
    ((Upd.refl F w).grown hg fun k hk => .inl ((hF k).2 (.inr hk))).setCell (p := ⟨b, 0, none⟩) (.inl ((hF b).2 (.inl rfl))) _
  have hend : ∃ F', zsI b (w2.setCell ⟨b, 0, none⟩ (.slice ao2 (l.length + d.length) cap2)) F' (l ++ d) ∧ (∀ k, F' k → F k ∨ w.heap.size ≤ k) ∧ Upd F w (w2.setCell ⟨b, 0, none⟩ (.slice ao2 (l.length + d.length) cap2)) := by
    refine ⟨fun k => k = b ∨ (Value.slice ao2 (l.length + d.length) cap2).ownBlock = some k, ⟨_, ?_, ho.stable (F := fun k => k = b) ((Upd.refl (fun k => k = b) w2).setCell (p := ⟨b, 0, none⟩) (.inl rfl) _) (fun k hk e => hbn (by rw [hk, e])), hbn, fun k => Iff.rfl⟩, ?_, hu⟩
    · refine (heap_setCell_at _ hb2).trans ?_
      simp
    · intro k hk
      rcases hk with rfl | hk
      · exact .inl ((hF _).2 (.inl rfl))
      · rcases hf k hk with h1 | h1
        · exact .inl ((hF k).2 (.inr h1))
        · exact .inr h1
  have HEnd := Lib.hid hend
  have HR := Lib.hid hr
  clear hend hr ho hg hf hb hv hne hF hx hb2 hbn hu
  go_enter Tryz.func233, Tryz.ntmps233
  go_wp2_with (at_builtin; refine wpList_append_run rfl _ _ _ rfl rfl rfl HR.out ?_)
  go_ret2
  exact ⟨rfl, HEnd.out⟩

abbrev zsS (b : Nat) : Sink := ⟨37, ⟨b, 0, none⟩, 233, fun _ => true, zsI b⟩

theorem zs_law (b : Nat) : (zsS b).Law Tryz.prog 539 where
  meth := fun w => by kernel_rfl
  ahead := fun w => by kernel_rfl
  enters := fun args w => by kernel_rfl
  stable := by
    rintro w w' F G l ⟨v, hb, hv, hne, hF⟩ hu hd
    exact ⟨v, hu.heap hb (hd b ((hF b).2 (.inl rfl))), hv.stable hu fun k hk => hd k ((hF k).2 (.inr hk)), hne, hF⟩
  lt := by
    rintro w F l ⟨v, hb, hv, hne, hF⟩ k hk
    rcases (hF k).1 hk with rfl | hk
    · exact heap_lt hb
    · exact (hv.lt k hk).2
  write := fun h hx _ hlim => zs_write h hx hlim
end Go.Proofs.YtlblpdbldnnllaaGreatFmt
