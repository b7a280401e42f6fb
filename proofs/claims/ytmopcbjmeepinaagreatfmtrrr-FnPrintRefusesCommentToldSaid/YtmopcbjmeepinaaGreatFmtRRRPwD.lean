/-
  A Word of literals: Word.Pos; the Printer's word.
-/
import Derived.Test.YtmopcbjmeepinaaGreatFmtRRRPwC
namespace Go.Proofs.YtmopcbjmeepinaaGreatFmtRRR
open Go.RowKit

/-- A Word lies at block wb; its parts at block rb. -/
def WordAt (G : Nat → Prop) (wb rb : Nat) (w : World) (ps : List LitP) : Prop :=
  (∃ c, w.heap[wb]? = some (.cells #[.slice (some ⟨rb, 0, none⟩) ps.length c] 143 (0, 0))) ∧ ¬ G wb ∧ PartsAt G rb w ps

theorem WordAt.next {G G' : Nat → Prop} {wb rb : Nat} {w w' : World} {ps : List LitP} (h : WordAt G wb rb w ps) (hu : Upd G w w') (hG : ∀ k, G' k → G k ∨ w.heap.size ≤ k) : WordAt G' wb rb w' ps := by
  obtain ⟨⟨c, h1⟩, h2, h3⟩ := h
  refine ⟨⟨c, hu.heap h1 h2⟩, fun hh => ?_, h3.next hu hG⟩
  rcases hG wb hh with h | h
  · exact h2 h
  · have := heap_lt h1; omega

set_option maxRecDepth 100000 in
set_option maxHeartbeats 2000000 in
theorem word_pos {wb rb : Nat} {w : World} {p : LitP} {ps : List LitP} {G : Nat → Prop} (h : WordAt G wb rb w (p :: ps)) (hlen : ps.length ≤ 1099511627776) :
    Calls Tryz.prog 62 #[.pointer (some ⟨wb, 0, none⟩)] w fun e w' => e = .returned (posV p.o1 p.l1) ∧ Upd (fun _ => False) w w' := by
  obtain ⟨⟨c, h1⟩, _, h3, _, h4⟩ := h
  obtain ⟨hL, _, _, _⟩ := h4 p (by simp)
  have c0 : w.cell? ⟨wb, 0, none⟩ = some (.slice (some ⟨rb, 0, none⟩) (p :: ps).length c) := cell_at h1 0
  have cr : w.cell? ⟨rb, 0, none⟩ = some (.iface 80 (.pointer (some ⟨p.lb, 0, none⟩))) := by rw [cell_at h3 0]; simp [litIf]
  have hm := lit_meth_pos p.lb
  have ha := lit_ahead_pos p.lb
  have hlw := heap_lt h1
  have hlr := heap_lt h3
  have hu0 : Upd (fun _ => False) w (w.alloc (.cells #[.int .u32 0, .int .u32 0] 40)) := (Upd.refl _ w).alloc _
  have HX := Lib.hid (heap_alloc_new w (.cells #[.int .u32 0, .int .u32 0] 40))
  have HU0 := Lib.hid hu0
  have HP := Lib.hid (lit_pos (hu0.heap hL fun h => h))
  obtain ⟨m, hm'⟩ : ∃ m, (p :: ps).length = m := ⟨_, rfl⟩
  have hmI : (0 : Int) < (m : Int) := by rw [← hm']; simp only [List.length_cons]; omega
  rw [hm'] at c0
  clear h1 h3 h4 hL hu0 hlen hm'
  go_enter Tryz.func62, Tryz.ntmps62
  go_wp2_with (go_at_call 137; refine HP.out.mono ?_)
  rintro e w1 ⟨rfl, hu1⟩
  have hX1 := hu1.heap HX.out fun h => h
  have x0 : w1.cell? ⟨w.heap.size, 0, none⟩ = some (.int .u32 0) := cell_at hX1 0
  have x1 : w1.cell? ⟨w.heap.size, 1, none⟩ = some (.int .u32 0) := cell_at hX1 1
  have f0 : w1.frozen? ⟨w.heap.size, 0, none⟩ = false := frozen_at hX1 0
  have f1 : w1.frozen? ⟨w.heap.size, 1, none⟩ = false := frozen_at hX1 1
  have HX1 := Lib.hid hX1
  have HU1 := Lib.hid (HU0.out.trans hu1)
  clear hX1 hu1
  go_wp2
  have hend : ((w1.setCell ⟨w.heap.size, 0, none⟩ (.int .u32 (p.o1 : Int))).setCell ⟨w.heap.size, 1, none⟩ (.int .u32 (p.l1 : Int))).heap[w.heap.size]? = some (.cells #[.int .u32 (p.o1 : Int), .int .u32 (p.l1 : Int)] 40 (0, 0)) := by
    refine (heap_setCell_at _ (heap_setCell_at _ HX1.out)).trans ?_
    simp
  refine bodyPost_ret (results_cell_row rfl _ _ w.heap.size _ _ (0, 0) _ rfl hend Tryz.underlying40 rfl (by kernel_rfl)) rfl ?_
  exact ⟨rfl, (HU1.out.setCell (.inr (Nat.le_refl _)) _).setCell (.inr (Nat.le_refl _)) _⟩

set_option maxRecDepth 100000 in
set_option maxHeartbeats 2000000 in
/-- The Printer's word. -/
theorem p_word {T : Sink} (hs : T.Law Tryz.prog 548) (hsw : T.WStr Tryz.prog) (h92 : T.okb 92 = true) {pb b : Nat} {tv : Value} {w : World} {F : Nat → Prop} {l : List UInt8} {s : PS} (h : PW T pb b tv w F l s) {wb rb : Nat} {ps : List LitP}
    (hW : WordAt (fun k => k = pb ∨ F k) wb rb w ps) (hne : ps ≠ []) (hln : ∀ p r, ps = p :: r → p.l1 / 16384 ≤ s.ln) (hv : ∀ p ∈ ps, ∀ x ∈ p.v.data.toList, T.okb x = true ∧ x ≠ 9) (hl : l.length + partsSize ps ≤ LIM) :
    Calls Tryz.prog 64 #[.pointer (some ⟨pb, 0, none⟩), .pointer (some ⟨wb, 0, none⟩)] w fun e w' => e = .returned (.tuple #[]) ∧ PWr T pb b tv w F (l ++ partsText ps) { s with ln := partsLn s.ln ps, ws := 1 } w' := by
  obtain ⟨⟨c, h1⟩, h2, h3⟩ := hW
  have c0 : w.cell? ⟨wb, 0, none⟩ = some (.slice (some ⟨rb, 0, none⟩) ps.length c) := cell_at h1 0
  obtain ⟨Q, HQ, HC⟩ := callsVar (p_wordParts hs hsw h92 h (c := c) h3 hne hln hv hl)
  clear h1 h2 h3 hne hln hv hl h
  go_enter Tryz.func64, Tryz.ntmps64
  go_wp2_with (go_at_call 124; refine HC.out.mono ?_)
  rintro e w1 hq
  obtain ⟨rfl, F1, hP1, hF1, hU1⟩ := HQ.out e w1 hq
  clear hq
  have c13 : w1.cell? ⟨pb, 13, none⟩ = some (.int .u8 (s.ws : Int)) := hP1.cell.at 13
  have f13 := hP1.cell.fr 13
  have HP1 := Lib.hid hP1
  have HU1 := Lib.hid (And.intro hF1 hU1)
  clear hP1 hF1 hU1
  go_wp2
  go_end0
  exact ⟨rfl, PWr.trans HU1.out.1 HU1.out.2 (HP1.out.set hs ((Upd.refl (fun k => k = pb) w1).setCell (p := ⟨pb, 13, none⟩) (.inl rfl) _) (HP1.out.cell.set rfl))⟩
end Go.Proofs.YtmopcbjmeepinaaGreatFmtRRR
