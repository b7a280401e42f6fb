/-
  fmt.Errorf of a format with one operand whose type's name alone is asked for.
-/
import Derived.Test.YtnhmgjgdkcgmfaaGreatFmtErrf
namespace Go.Proofs.YtnhmgjgdkcgmfaaGreatFmt
open Go.RowKit
open Go.Extern.Stop Go.Stop Go.Extern

theorem errT_next : Extern.next FmtCalls.turnsRow = some (FmtCalls.begun #[] #[]) := by kernel_rfl
abbrev errTf : ByteArray := "unsupported node type: %T".toUTF8
theorem errT_printed (w : World) : (FmtDoors.printed ⟨#[117, 110, 115, 117, 112, 112, 111, 114, 116, 101, 100, 32, 110, 111, 100, 101, 32, 116, 121, 112, 101, 58, 32, 37, 84]⟩ 1).run Tryz.prog w = .ok [(0, 84, false)] w := by kernel_rfl
theorem errT_act (name : String) (x : Value) (w : World) : (FmtCalls.act name true 84 false (.iface 266 x)).run Tryz.prog w = .ok (.closed true) w := by kernel_rfl
theorem errT_str (w : World) : (typeStr 266).run Tryz.prog w = .ok "*syntax.Comment" w := by kernel_rfl
theorem errT_ptr (w : World) : (FmtStop.ptrTo "errors.errorString").run Tryz.prog w = .ok 262 w := by kernel_rfl
theorem errT_elem (w : World) : (elemOf 262).run Tryz.prog w = .ok 264 w := by kernel_rfl
theorem errT_operand (name : String) (x : Value) (w : World) : (FmtStop.operand name true 84 false (.iface 266 x)).run Tryz.prog w = .ok (21 :: FmtStop.pack "*syntax.Comment".toUTF8.data.toList, []) w := by
  unfold FmtStop.operand
  refine (Sem.run_bind Tryz.prog w _ _).trans ?_
  rw [errT_str]
  rfl

set_option maxRecDepth 100000 in
theorem errT_call (sb c : Nat) (w : World) : (callFunc 44 #[.string ⟨#[117, 110, 115, 117, 112, 112, 111, 114, 116, 101, 100, 32, 110, 111, 100, 101, 32, 116, 121, 112, 101, 58, 32, 37, 84]⟩, .slice (some ⟨sb, 0, none⟩) 1 c]).run Tryz.prog w = .ok (.row FmtCalls.turnsRow (FmtCalls.save 3 1 (.slice (some ⟨sb, 0, none⟩) 1 c) ⟨#[117, 110, 115, 117, 112, 112, 111, 114, 116, 101, 100, 32, 110, 111, 100, 101, 32, 116, 121, 112, 101, 58, 32, 37, 84]⟩ [] [(0, 84, false)])) w := by
  rw [run_callFunc_next Tryz.func44 (e := FmtCalls.errorf #[9, 117] #[55]) (by kernel_rfl) (by kernel_rfl) (by kernel_rfl)]
  delta FmtCalls.errorf
  refine (Sem.run_bind Tryz.prog w (FmtStop.guard "fmt.errorf") _).trans ?_
  rw [errorf_guard]
  refine (Sem.run_bind Tryz.prog w (FmtDoors.count (.slice (some ⟨sb, 0, none⟩) 1 c)) _).trans ?_
  show Sem.run Tryz.prog (if (((1 : Nat) == 0 && _) = true) then _ else _) w = _
  rw [if_neg (by simp)]
  refine (Sem.run_bind Tryz.prog w (FmtDoors.printed _ 1) _).trans ?_
  rw [errT_printed]
  rfl

set_option maxRecDepth 100000 in
theorem errT_begun (sb c : Nat) (x : Value) (w : World) (h : w.cell? ⟨sb, 0, none⟩ = some (.iface 266 x)) :
    ∃ v w', (FmtCalls.begun #[] #[] (FmtCalls.save 3 1 (.slice (some ⟨sb, 0, none⟩) 1 c) ⟨#[117, 110, 115, 117, 112, 112, 111, 114, 116, 101, 100, 32, 110, 111, 100, 101, 32, 116, 121, 112, 101, 58, 32, 37, 84]⟩ [] [(0, 84, false)])).run Tryz.prog w = .ok (.value v) w' ∧ (∃ t u, v = .iface t u) ∧ Upd (fun _ => False) w w' := by
  rw [FmtCalls.run_begun_save]
  obtain ⟨res, hres⟩ : ∃ res, (FmtCalls.turns 3 1 (.slice (some ⟨sb, 0, none⟩) 1 c) ⟨#[117, 110, 115, 117, 112, 112, 111, 114, 116, 101, 100, 32, 110, 111, 100, 101, 32, 116, 121, 112, 101, 58, 32, 37, 84]⟩ [] [(0, 84, false)]).run Tryz.prog w = res := ⟨_, rfl⟩
  rw [hres]
  simp [FmtCalls.turns, FmtCalls.finish, h, errT_act, errT_operand, errT_ptr, errT_elem, go_sem] at hres
  subst hres
  exact ⟨_, _, rfl, ⟨_, _, rfl⟩, (Upd.refl _ w).drew.alloc _⟩

set_option maxRecDepth 100000 in
theorem fmt_ErrorfT (sb c : Nat) (x : Value) (w : World) (h : w.cell? ⟨sb, 0, none⟩ = some (.iface 266 x)) :
    Calls Tryz.prog 29 #[.string ⟨#[117, 110, 115, 117, 112, 112, 111, 114, 116, 101, 100, 32, 110, 111, 100, 101, 32, 116, 121, 112, 101, 58, 32, 37, 84]⟩, .slice (some ⟨sb, 0, none⟩) 1 c] w fun e w' => (∃ t v, e = .returned (.iface t v)) ∧ Upd (fun _ => False) w w' := by
  have hc := errT_call sb c
  obtain ⟨v, w1, h1, ⟨t, u, rfl⟩, h3⟩ := errT_begun sb c x w h
  have HB := Lib.hid h1
  have HU := Lib.hid h3
  clear h h1 h3
  go_enter Tryz.func29, Tryz.ntmps29
  go_wp2
  refine rows_value errT_next HB.out ?_
  go_wp2
  go_ret
  exact ⟨⟨_, _, rfl⟩, HU.out⟩
end Go.Proofs.YtnhmgjgdkcgmfaaGreatFmt
