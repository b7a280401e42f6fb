/-
  The options of a Printer, as closures; NewPrinter.
-/
import Derived.Test.YtdfgcopelfmcmaaGreatFmtPeJ
namespace Go.Proofs.YtdfgcopelfmcmaaGreatFmt
open Go.RowKit

theorem PrAny.chg {pb b tb : Nat} {s s' : PS} {w w' : World} {O : Nat → Prop} (h : PrAny pb b tb s w O) (hu : Upd (fun k => k = pb) w w') (hc : PCell pb w' (wvOf s'.kp pb b) (.pointer (some ⟨tb, 0, none⟩)) (cvOf s'.kp b) s') (hl : s'.lin ≤ s'.lic) : PrAny pb b tb s' w' O := by
  obtain ⟨g, G, ⟨_, hb, ht, _, hdis⟩, hO⟩ := h
  refine ⟨g, G, ⟨hc, hb.stable hu (fun e => hdis.1 e.symm) (fun e => hdis.2.1 e.symm), ht.stable hu fun k hk e => ?_, hl, hdis⟩, hO⟩
  subst e
  rcases hk with hk | hk
  · exact hdis.2.2.1 hk
  · exact hdis.2.2.2.2.2.1 hk

theorem PrAny.lin {pb b tb : Nat} {s : PS} {w : World} {O : Nat → Prop} (h : PrAny pb b tb s w O) : s.lin ≤ s.lic := by
  obtain ⟨g, G, h, _⟩ := h
  exact h.lin

/-- What an option makes of the state. -/
def optKp (v : Bool) (s : PS) : PS := if v then { s with kp := true } else if s.kp then { s with kp := false, cc := 0, cl := false } else s
def optMi (v : Bool) (s : PS) : PS := { s with mi := v }
def optSi (v : Bool) (s : PS) : PS := { s with si := v }
def optFn (v : Bool) (s : PS) : PS := { s with fnl := v }

/-- An option's closure: what calling it does. -/
def OptLaw (f : FuncId) (box : Nat) (cell : Value) (T : PS → PS) : Prop :=
  ∀ {pb b tb : Nat} {s : PS} {w : World} {O : Nat → Prop}, PrAny pb b tb s w O → w.cell? ⟨box, 0, none⟩ = some cell → ¬ O box →
    Calls Tryz.prog f #[.pointer (some ⟨pb, 0, none⟩), .pointer (some ⟨box, 0, none⟩)] w fun e w' => e = .returned (.tuple #[]) ∧ PrAny pb b tb (T s) w' O ∧ Upd (fun k => k = pb) w w'

set_option maxRecDepth 100000 in
set_option maxHeartbeats 1000000 in
theorem mi_opt (box : Nat) (v : Bool) : OptLaw 43 box (.bool v) (optMi v) := by
  intro pb b tb s w O h hb hO
  have hp := h.pcell
  have c10 : w.cell? ⟨pb, 10, none⟩ = some (.bool s.mi) := hp.at 10
  have f10 := hp.fr 10
  have HA := Lib.hid h
  clear h hp
  go_enter Tryz.func43, Tryz.ntmps43
  go_wp2
  go_end0
  have hu : Upd (fun k => k = pb) w (w.setCell ⟨pb, 10, none⟩ (.bool v)) := (Upd.refl (fun k => k = pb) w).setCell (p := ⟨pb, 10, none⟩) (.inl rfl) _
  exact ⟨rfl, HA.out.chg (s' := optMi v s) hu (HA.out.pcell.set rfl) HA.out.lin, hu⟩

set_option maxRecDepth 100000 in
set_option maxHeartbeats 1000000 in
theorem si_opt (box : Nat) (v : Bool) : OptLaw 44 box (.bool v) (optSi v) := by
  intro pb b tb s w O h hb hO
  have hp := h.pcell
  have c11 : w.cell? ⟨pb, 11, none⟩ = some (.bool s.si) := hp.at 11
  have f11 := hp.fr 11
  have HA := Lib.hid h
  clear h hp
  go_enter Tryz.func44, Tryz.ntmps44
  go_wp2
  go_end0
  have hu : Upd (fun k => k = pb) w (w.setCell ⟨pb, 11, none⟩ (.bool v)) := (Upd.refl (fun k => k = pb) w).setCell (p := ⟨pb, 11, none⟩) (.inl rfl) _
  exact ⟨rfl, HA.out.chg (s' := optSi v s) hu (HA.out.pcell.set rfl) HA.out.lin, hu⟩

set_option maxRecDepth 100000 in
set_option maxHeartbeats 1000000 in
theorem fn_opt (box : Nat) (v : Bool) : OptLaw 39 box (.bool v) (optFn v) := by
  intro pb b tb s w O h hb hO
  have hp := h.pcell
  have c12 : w.cell? ⟨pb, 12, none⟩ = some (.bool s.fnl) := hp.at 12
  have f12 := hp.fr 12
  have HA := Lib.hid h
  clear h hp
  go_enter Tryz.func39, Tryz.ntmps39
  go_wp2
  go_end0
  have hu : Upd (fun k => k = pb) w (w.setCell ⟨pb, 12, none⟩ (.bool v)) := (Upd.refl (fun k => k = pb) w).setCell (p := ⟨pb, 12, none⟩) (.inl rfl) _
  exact ⟨rfl, HA.out.chg (s' := optFn v s) hu (HA.out.pcell.set rfl) HA.out.lin, hu⟩

set_option maxRecDepth 100000 in
set_option maxHeartbeats 2000000 in
theorem kp_opt (box : Nat) (v : Bool) : OptLaw 42 box (.bool v) (optKp v) := by
  intro pb b tb s w O h hb hO
  have hp := h.pcell
  have f0 := hp.fr 0; have f2 := hp.fr 2; have f3 := hp.fr 3; have f4 := hp.fr 4; have f9 := hp.fr 9
  have c3 : w.cell? ⟨pb, 3, none⟩ = some (.int .i64 s.cc) := hp.at 3
  have c4 : w.cell? ⟨pb, 4, none⟩ = some (.bool s.cl) := hp.at 4
  have hbp : ¬ box = pb := fun e => hO (e ▸ h.own)
  have hpb' : ¬ pb = box := fun e => hbp e.symm
  have HA := Lib.hid h
  have hta : ∀ w, (Instr.typeAssert (.iface 60 (.pointer (some ⟨b, 0, none⟩))) 58 60 false).run Tryz.prog w = .ok (.pointer (some ⟨b, 0, none⟩)) w := fun w => by kernel_rfl
  cases hkp : s.kp
  · have c0 : w.cell? ⟨pb, 0, none⟩ = some (.iface 60 (.pointer (some ⟨b, 0, none⟩))) := by have h := hp.at 0; rw [h, hkp]; rfl
    have c2 : w.cell? ⟨pb, 2, none⟩ = some (.pointer none) := by have h := hp.at 2; rw [h, hkp]; rfl
    have c9 : w.cell? ⟨pb, 9, none⟩ = some (.bool false) := by have h := hp.at 9; rw [h, ← hkp]; rfl
    clear h hp
    cases v
    · go_enter Tryz.func42, Tryz.ntmps42
      go_wp2
      go_end0
      exact ⟨rfl, by simpa [optKp, hkp] using HA.out, Upd.refl _ w⟩
    · go_enter Tryz.func42, Tryz.ntmps42
      go_wp2
      go_end0
      have hu : Upd (fun k => k = pb) w (((w.setCell ⟨pb, 9, none⟩ (.bool true)).setCell ⟨pb, 2, none⟩ (.pointer (some ⟨b, 0, none⟩))).setCell ⟨pb, 0, none⟩ (.iface 67 (.pointer (some ⟨pb, 2, none⟩)))) :=
        Upd.setCell (F := fun k => k = pb) (Upd.setCell (F := fun k => k = pb) (Upd.setCell (F := fun k => k = pb) (Upd.refl _ w) (by exact .inl rfl) _) (by exact .inl rfl) _) (by exact .inl rfl) _
      refine ⟨rfl, HA.out.chg (s' := optKp true s) hu ?_ HA.out.lin, hu⟩
      refine (heap_setCell_at _ (heap_setCell_at _ (heap_setCell_at _ HA.out.pcell))).trans ?_
      simp [PS.cells, optKp, wvOf, cvOf]
  · have c0 : w.cell? ⟨pb, 0, none⟩ = some (.iface 67 (.pointer (some ⟨pb, 2, none⟩))) := by have h := hp.at 0; rw [h, hkp]; rfl
    have c2 : w.cell? ⟨pb, 2, none⟩ = some (.pointer (some ⟨b, 0, none⟩)) := by have h := hp.at 2; rw [h, hkp]; rfl
    have c9 : w.cell? ⟨pb, 9, none⟩ = some (.bool true) := by have h := hp.at 9; rw [h, ← hkp]; rfl
    clear h hp
    cases v
    · go_enter Tryz.func42, Tryz.ntmps42
      go_wp2
      go_end0
      have hu : Upd (fun k => k = pb) w (((((w.setCell ⟨pb, 9, none⟩ (.bool false)).setCell ⟨pb, 0, none⟩ (.iface 60 (.pointer (some ⟨b, 0, none⟩)))).setCell ⟨pb, 2, none⟩ (.pointer none)).setCell ⟨pb, 3, none⟩ (.int .i64 0)).setCell ⟨pb, 4, none⟩ (.bool false)) :=
        Upd.setCell (F := fun k => k = pb) (Upd.setCell (F := fun k => k = pb) (Upd.setCell (F := fun k => k = pb) (Upd.setCell (F := fun k => k = pb) (Upd.setCell (F := fun k => k = pb) (Upd.refl _ w) (by exact .inl rfl) _) (by exact .inl rfl) _) (by exact .inl rfl) _) (by exact .inl rfl) _) (by exact .inl rfl) _
      have hk' : (optKp false s).kp = false := by simp [optKp, hkp]
      refine ⟨rfl, HA.out.chg (s' := optKp false s) hu ?_ (by simpa [optKp, hkp] using HA.out.lin), hu⟩
      refine (heap_setCell_at _ (heap_setCell_at _ (heap_setCell_at _ (heap_setCell_at _ (heap_setCell_at _ HA.out.pcell))))).trans ?_
      simp [PS.cells, optKp, hkp, wvOf, cvOf]
    · go_enter Tryz.func42, Tryz.ntmps42
      go_wp2
      go_end0
      have he : optKp true s = s := by
        cases s
        simp only at hkp
        subst hkp
        rfl
      exact ⟨rfl, by rw [he]; exact HA.out, Upd.refl _ w⟩
end Go.Proofs.YtdfgcopelfmcmaaGreatFmt
