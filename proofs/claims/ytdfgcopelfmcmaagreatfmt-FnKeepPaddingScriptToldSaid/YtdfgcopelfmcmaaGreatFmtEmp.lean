/-
  n010_67: a Printer with four options; printing an empty file with it.
-/
import Derived.Test.YtdfgcopelfmcmaaGreatFmtPeG
import Derived.Test.YtdfgcopelfmcmaaGreatFmtNew
import Derived.Test.YtdfgcopelfmcmaaGreatFmtSbbE
namespace Go.Proofs.YtdfgcopelfmcmaaGreatFmt
open Go.RowKit

/-- What a call leaves of a Printer. -/
def PrKept (pb b tb : Nat) (s : PS) (O : Nat → Prop) (w w' : World) : Prop := ∃ s' O', PrAny pb b tb s' w' O' ∧ s.Same s' ∧ (∀ k, O' k → O k ∨ w.heap.size ≤ k) ∧ Upd O w w'

/-- What printing an empty file gives. -/
def emptyOut (s : PS) : ByteArray := if s.mi && s.si then ⟨#[]⟩ else ⟨#[10]⟩

theorem bb_zero {w : World} {k : Nat} (h : w.heap[k]? = some (.cells #[.slice none 0 0, .int .i64 0, .int .i8 0] 110 (0, 0))) : bbI k w (fun j => j = k) [] :=
  ⟨_, _, h, Row.nil w, by simp [Value.ownBlock], fun j => by simp [Value.ownBlock]⟩

set_option maxRecDepth 100000 in
set_option maxHeartbeats 4000000 in
theorem print_empty {pb b tb : Nat} {s : PS} {w : World} {O : Nat → Prop} (h : PrAny pb b tb s w O) (hkk : s.k ≤ 1073741824) :
    Calls Tryz.prog 32 #[.pointer (some ⟨pb, 0, none⟩)] w fun e w' => e = .returned (.tuple #[.string (emptyOut s), .bool (s.mi && s.si)]) ∧ PrKept pb b tb s O w w' := by
  have hlt := h.lt
  have hu0 : Upd (fun _ => False) w ((w.alloc (.cells #[.slice none 0 0, .int .i64 0, .int .i8 0] 110)).alloc (.cells #[.string ⟨#[]⟩, .slice none 0 0, .slice none 0 0] 52)) := ((Upd.refl _ w).alloc _).alloc _
  have hB : ((w.alloc (.cells #[.slice none 0 0, .int .i64 0, .int .i8 0] 110)).alloc (.cells #[.string ⟨#[]⟩, .slice none 0 0, .slice none 0 0] 52)).heap[w.heap.size]? = some (.cells #[.slice none 0 0, .int .i64 0, .int .i8 0] 110 (0, 0)) :=
    (Below.heap_alloc _ _ _ (by simp)).trans (heap_alloc_new w _)
  have hF : ((w.alloc (.cells #[.slice none 0 0, .int .i64 0, .int .i8 0] 110)).alloc (.cells #[.string ⟨#[]⟩, .slice none 0 0, .slice none 0 0] 52)).heap[w.heap.size + 1]? = some (.cells #[.string ⟨#[]⟩, .slice none 0 0, .slice none 0 0] 52 (0, 0)) := by
    have h := heap_alloc_new (w.alloc (.cells #[.slice none 0 0, .int .i64 0, .int .i8 0] 110)) (.cells #[.string ⟨#[]⟩, .slice none 0 0, .slice none 0 0] 52)
    rw [show (w.alloc (.cells #[.slice none 0 0, .int .i64 0, .int .i8 0] 110)).heap.size = w.heap.size + 1 by simp] at h
    exact h
  have h1 := h.stable hu0 fun _ _ h => h
  have hI := bb_zero hB
  have hOB : ∀ k, O k → ¬ k = w.heap.size := fun k hk e => by have := hlt k hk; omega
  cases hms : s.mi && s.si
  · obtain ⟨Q, HQ, HC⟩ := callsVar (pe_Print (S := bbS w.heap.size) (fb := w.heap.size + 1) (Fs := fun k => k = w.heap.size) (bb_law _) (fun _ => rfl) h1 hms hkk hI hOB ⟨_, hF⟩ (fun e => by have := hlt _ e; omega) (by omega))
    have HU0 := Lib.hid hu0
    have HLt := Lib.hid hlt
    clear hu0 hB hF h1 hI hOB h hlt
    go_enter Tryz.func32, Tryz.ntmps32
    go_wp2_with (go_at_call 30; refine HC.out.mono ?_)
    rintro e w1 hq
    obtain ⟨rfl, s', O', F', hA, hsm, hI1, hd1, ho1, hu1⟩ := HQ.out e w1 hq
    clear hq
    have HStr := Lib.hid (fun (W : World) (hW : Upd (fun _ => False) w1 W) => bb_string ((bb_law w.heap.size).stable hI1 hW fun _ _ h => h))
    have HA := Lib.hid (And.intro hA (And.intro hsm (And.intro ho1 hu1)))
    clear hA hsm hI1 hd1 ho1 hu1
    go_wp2_with fail
    go_region_with (
      go_at_call 60
      refine (HStr.out _ ?_).mono ?_
      exact (Upd.refl _ _).drew
      rintro e w2 ⟨rfl, hu2⟩
      have HU2 := Lib.hid hu2
      clear hu2)
    all_goals
      go_wp2_with fail
      go_ret2
      obtain ⟨hA, hsm, ho1, hu1⟩ := HA.out
      have huq : Upd (fun _ => False) w1 w2 := (Upd.refl _ w1).drew.trans HU2.out
      refine ⟨by simp only [emptyOut, hms, Bool.false_eq_true, if_false]; rfl, s', O', hA.stable huq (fun _ _ h => h), hsm, fun k hk => ?_, ?_⟩
      · rcases ho1 k (.inl hk) with (h | h) | h
        · exact .inl h
        · exact .inr (by omega)
        · exact .inr (Nat.le_trans HU0.out.size h)
      · refine ((HU0.out.mono (G := O) fun _ h => h.elim).trans' hu1 fun k hk => ?_).trans (huq.mono fun _ h => h.elim)
        rcases hk with h | h
        · exact .inl h
        · exact .inr (by omega)
  · obtain ⟨Q, HQ, HC⟩ := callsVar (pe_Print_no (S := bbS w.heap.size) h1 hms (.iface 48 (.pointer (some ⟨w.heap.size + 1, 0, none⟩))))
    have HU0 := Lib.hid hu0
    have HI := Lib.hid hI
    have HOB := Lib.hid hOB
    clear hu0 hB hF h1 hI hOB h hlt
    go_enter Tryz.func32, Tryz.ntmps32
    go_wp2_with (go_at_call 30; refine HC.out.mono ?_)
    rintro e w1 hq
    obtain ⟨⟨t, v, rfl⟩, s', hA, hsm, hu1⟩ := HQ.out e w1 hq
    clear hq
    have hI1 := (bb_law w.heap.size).stable HI.out hu1 fun k hk ho => HOB.out k ho hk
    have HStr := Lib.hid (fun (W : World) (hW : Upd (fun _ => False) w1 W) => bb_string ((bb_law w.heap.size).stable hI1 hW fun _ _ h => h))
    have HA := Lib.hid (And.intro hA (And.intro hsm hu1))
    clear hA hsm hI1 hu1
    go_wp2_with fail
    go_region_with (
      go_at_call 60
      refine (HStr.out _ ?_).mono ?_
      exact (Upd.refl _ _).drew
      rintro e w2 ⟨rfl, hu2⟩
      have HU2 := Lib.hid hu2
      clear hu2)
    all_goals
      go_wp2_with fail
      go_ret2
      obtain ⟨hA, hsm, hu1⟩ := HA.out
      have huq : Upd (fun _ => False) w1 w2 := (Upd.refl _ w1).drew.trans HU2.out
      exact ⟨by simp only [emptyOut, hms, if_true]; rfl, s', O, hA.stable huq (fun _ _ h => h), hsm, fun k hk => .inl hk, ((HU0.out.mono (G := O) fun _ h => h.elim).trans hu1).trans (huq.mono fun _ h => h.elim)⟩
end Go.Proofs.YtdfgcopelfmcmaaGreatFmt
