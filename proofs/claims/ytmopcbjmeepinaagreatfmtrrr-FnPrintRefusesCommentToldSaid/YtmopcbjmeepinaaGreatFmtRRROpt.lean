/-
  The options of a Printer, as closures; NewPrinter.
-/
import Derived.Test.YtmopcbjmeepinaaGreatFmtRRRPeJ
namespace Go.Proofs.YtmopcbjmeepinaaGreatFmtRRR
open Go.RowKit

theorem PrAny.chg {pb b tb : Nat} {s s' : PS} {w w' : World} {O : Nat → Prop} (h : PrAny pb b tb s w O) (hu : Upd (fun k => k = pb) w w') (hc : PCell pb w' (wvOf s'.kp pb b) (.pointer (some ⟨tb, 0, none⟩)) (cvOf s'.kp b) s') (hl : s'.lin ≤ s'.lic) : PrAny pb b tb s' w' O := by
  obtain ⟨g, G, ⟨_, hb, ht, _, hdis⟩, hO⟩ := h
  refine ⟨g, G, ⟨hc, hb.stable hu (fun e => hdis.1 e.symm) (fun e => hdis.2.1 e.symm), ht.stable hu fun k hk e => ?_, hl, hdis⟩, hO⟩
  subst e
  rcases hk with hk | hk
  · exact hdis.2.2.1 hk
  · exact hdis.2.2.2.2.2.1 hk

theorem PrAny.lin {pb b tb : Nat} {s : PS} {w : World} {O : Nat → Prop} (h : PrAny pb b tb s w O) : s.lin ≤ s.lic := by
  obtain ⟨g, G, h, _⟩ := h
  exact h.lin

/-- What an option makes of the state. -/
def optKp (v : Bool) (s : PS) : PS := if v then { s with kp := true } else if s.kp then { s with kp := false, cc := 0, cl := false } else s
def optMi (v : Bool) (s : PS) : PS := { s with mi := v }
def optSi (v : Bool) (s : PS) : PS := { s with si := v }
def optFn (v : Bool) (s : PS) : PS := { s with fnl := v }

/-- An option's closure: what calling it does. -/
def OptLaw (f : FuncId) (box : Nat) (cell : Value) (T : PS → PS) : Prop :=
  ∀ {pb b tb : Nat} {s : PS} {w : World} {O : Nat → Prop}, PrAny pb b tb s w O → w.cell? ⟨box, 0, none⟩ = some cell → ¬ O box →
    Calls Tryz.prog f #[.pointer (some ⟨pb, 0, none⟩), .pointer (some ⟨box, 0, none⟩)] w fun e w' => e = .returned (.tuple #[]) ∧ PrAny pb b tb (T s) w' O ∧ Upd (fun k => k = pb) w w'

set_option maxRecDepth 100000 in
set_option maxHeartbeats 1000000 in
theorem mi_opt (box : Nat) (v : Bool) : OptLaw 54 box (.bool v) (optMi v) := by
  intro pb b tb s w O h hb hO
  have hp := h.pcell
  have c10 : w.cell? ⟨pb, 10, none⟩ = some (.bool s.mi) := hp.at 10
  have f10 := hp.fr 10
  have HA := Lib.hid h
  clear h hp
  go_enter Tryz.func54, Tryz.ntmps54
  go_wp2
  go_end0
  have hu : Upd (fun k => k = pb) w (w.setCell ⟨pb, 10, none⟩ (.bool v)) := (Upd.refl (fun k => k = pb) w).setCell (p := ⟨pb, 10, none⟩) (.inl rfl) _
  exact ⟨rfl, HA.out.chg (s' := optMi v s) hu (HA.out.pcell.set rfl) HA.out.lin, hu⟩

set_option maxRecDepth 100000 in
set_option maxHeartbeats 1000000 in
theorem si_opt (box : Nat) (v : Bool) : OptLaw 55 box (.bool v) (optSi v) := by
  intro pb b tb s w O h hb hO
  have hp := h.pcell
  have c11 : w.cell? ⟨pb, 11, none⟩ = some (.bool s.si) := hp.at 11
  have f11 := hp.fr 11
  have HA := Lib.hid h
  clear h hp
  go_enter Tryz.func55, Tryz.ntmps55
  go_wp2
  go_end0
  have hu : Upd (fun k => k = pb) w (w.setCell ⟨pb, 11, none⟩ (.bool v)) := (Upd.refl (fun k => k = pb) w).setCell (p := ⟨pb, 11, none⟩) (.inl rfl) _
  exact ⟨rfl, HA.out.chg (s' := optSi v s) hu (HA.out.pcell.set rfl) HA.out.lin, hu⟩

set_option maxRecDepth 100000 in
set_option maxHeartbeats 1000000 in
theorem fn_opt (box : Nat) (v : Bool) : OptLaw 74 box (.bool v) (optFn v) := by
  intro pb b tb s w O h hb hO
  have hp := h.pcell
  have c12 : w.cell? ⟨pb, 12, none⟩ = some (.bool s.fnl) := hp.at 12
  have f12 := hp.fr 12
  have HA := Lib.hid h
  clear h hp
  go_enter Tryz.func74, Tryz.ntmps74
  go_wp2
  go_end0
  have hu : Upd (fun k => k = pb) w (w.setCell ⟨pb, 12, none⟩ (.bool v)) := (Upd.refl (fun k => k = pb) w).setCell (p := ⟨pb, 12, none⟩) (.inl rfl) _
  exact ⟨rfl, HA.out.chg (s' := optFn v s) hu (HA.out.pcell.set rfl) HA.out.lin, hu⟩

end Go.Proofs.YtmopcbjmeepinaaGreatFmtRRR
