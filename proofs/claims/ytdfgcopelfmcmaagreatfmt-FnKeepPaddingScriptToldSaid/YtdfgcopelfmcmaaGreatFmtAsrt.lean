/-
  Type assertions at a pointer type, with ok: what each makes.
-/
import Derived.WalkKit
import Derived.Lib.Hide
namespace Go.Proofs.YtdfgcopelfmcmaaGreatFmt
open Go.RowKit

theorem asrt_same {P : Program} {t e : TypeId} (h : P.underlying t = some (.pointer e)) (xT : TypeId) (v : Value) (w : World) :
    (Instr.typeAssert (.iface t v) xT t true).run P w = .ok (.tuple #[v, .bool true]) w := by
  simp [Instr.typeAssert, run_underlying h]
theorem asrt_other {P : Program} {t tt e : TypeId} (h : P.underlying tt = some (.pointer e)) (hz : (P.info? tt).map (·.zero) = some (some (.pointer none))) (hne : (t == tt) = false) (xT : TypeId) (v : Value) (w : World) :
    (Instr.typeAssert (.iface t v) xT tt true).run P w = .ok (.tuple #[.pointer none, .bool false]) w := by
  obtain ⟨i, hi, hz'⟩ := Option.map_eq_some_iff.1 hz
  have hne' : ¬ t = tt := by simpa using hne
  simp [Instr.typeAssert, run_underlying h, hne', zeroValue, typeInfo, hi, hz']

/-- What a call leaves, behind a variable: the walk does not open it. -/
theorem callsVar {P : Program} {f : FuncId} {args : Array Value} {w : World} {Q : Ending → World → Prop} (h : Calls P f args w Q) : ∃ Q', RowKit.Hid (∀ e w', Q' e w' → Q e w') ∧ RowKit.Hid (Calls P f args w Q') := ⟨Q, fun _ _ h => h, h⟩

end Go.Proofs.YtdfgcopelfmcmaaGreatFmt
