/-
  fmt.Errorf of a plain text, with no operand.
-/
import Derived.Test.YtnhmgjgdkcgmfaaGreatFmtMa
import Derived.Test.YtnhmgjgdkcgmfaaGreatFmtProg
import Derived.Stop.CallBack
import Derived.Stop.IfaceNil
import Derived.Lib.Hide
import Derived.StillTailTactics
namespace Go.Proofs.YtnhmgjgdkcgmfaaGreatFmt
open Go.RowKit
open Go.Extern.Stop Go.Stop Go.Extern

theorem errorf_guard (name : String) (w : World) : (FmtStop.guard name).run Tryz.prog w = .ok () w := by kernel_rfl

theorem errorf_none (s : ByteArray) (h : s.data.contains 37 = false) (w : World) : (callFunc 44 #[.string s, .slice none 0 0]).run Tryz.prog w = .ok (.value .nilIface) w := by
  rw [run_callFunc_next Tryz.func44 (e := FmtCalls.errorf #[9, 117] #[55]) (by kernel_rfl) (by kernel_rfl) (by kernel_rfl)]
  delta FmtCalls.errorf
  refine (Sem.run_bind Tryz.prog w (FmtStop.guard "fmt.errorf") _).trans ?_
  rw [errorf_guard]
  refine (Sem.run_bind Tryz.prog w (FmtDoors.count (.slice none 0 0)) _).trans ?_
  show Sem.run Tryz.prog (if (((0 : Nat) == 0 && !s.data.contains 37) = true) then _ else _) w = _
  rw [if_pos (by rw [h]; rfl)]
  rfl

set_option maxRecDepth 100000 in
theorem errors_New (s : ByteArray) (w : World) : Calls Tryz.prog 45 #[.string s] w fun e w' => (∃ t v, e = .returned (.iface t v)) ∧ Upd (fun _ => False) w w' := by
  go_enter Tryz.func45, Tryz.ntmps45
  go_wp2
  go_ret
  exact ⟨⟨_, _, rfl⟩, (Upd.refl _ w).alloc _⟩

set_option maxRecDepth 100000 in
theorem fmt_Errorf (s : ByteArray) (h : s.data.contains 37 = false) (w : World) : Calls Tryz.prog 29 #[.string s, .slice none 0 0] w fun e w' => (∃ t v, e = .returned (.iface t v)) ∧ Upd (fun _ => False) w w' := by
  have hc := errorf_none s h
  go_enter Tryz.func29, Tryz.ntmps29
  go_wp2_with (go_at_call 45; refine (errors_New s w).mono ?_)
  rintro e w1 ⟨⟨t, v, rfl⟩, hu⟩
  have HU := Lib.hid hu
  clear hu
  go_wp2
  go_ret
  exact ⟨⟨t, v, rfl⟩, HU.out⟩
end Go.Proofs.YtnhmgjgdkcgmfaaGreatFmt
