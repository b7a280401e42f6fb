/-
  n010_157.FnClosingParenAgreesWithRightParen: the walk with SingleLine false, k8 = k9.
-/
import Derived.Test.YtgcoopjkjeoflaaGreatFmtRCAV
namespace Go.Proofs.YtgcoopjkjeoflaaGreatFmtR
open Go.RowKit

set_option maxRecDepth 100000 in
set_option maxHeartbeats 32000000 in
theorem ca_caseY (b0 b2 b3 : Bool) (k4 k5 k6 k7 k8 k9 : Nat) (w : World) (v v2 : VS) (bs bs2 : ByteArray) (h4I : (k4 : Int) ≤ 2) (hk7I : (k7 : Int) ≤ 1048576) (hk8I : (k8 : Int) ≤ 262143) (hk9I : (k9 : Int) ≤ 262143)
    (hbi : ∀ W : World, Calls Tryz.prog 6 #[.int .u64 (k5 : Int), .int .u64 (k6 : Int)] W fun e w' => e = .returned (.bool false) ∧ w' = W)
    (hst : ∀ W : World, Calls Tryz.prog 7 #[.bool b0, .bool false, .bool false, .bool b2, .bool b3, .bool false, .bool false, .int .u8 (k4 : Int), .int .u64 (k5 : Int), .int .u64 (k6 : Int), .int .u64 (k7 : Int)] W fun e w' => e = .returned (stV v) ∧ Upd (fun _ => False) W w')
    (hrp : ∀ W : World, Calls Tryz.prog 8 #[stV v, .int .u64 (k9 : Int), .int .u64 1] W fun e w' => e = .returned (.tuple #[.string bs, stV v2]) ∧ Upd (fun _ => False) W w')
    (hcl : ∀ (ks : List Nat) (nl : Nat) (r : Bool) (kv : Value) (W : World), (decide (nl = 0) && endKs ks && (false || decide (k8 = k9))) = r → ks.length ≤ 4096 → nl ≤ 4096 → KsRd W kv ks →
      Calls Tryz.prog 13 #[stV v, kv, .int .i64 (nl : Int), .int .u64 (k8 : Int), .int .u64 (k9 : Int)] W fun e w' => e = .returned (.tuple #[.string (if r then bs2 else bs), stV v2]) ∧ Upd (fun _ => False) W w')
    (hadd : ∀ W : World, (Op.stringOp .add ⟨#[32]⟩ bs).run Tryz.prog W = .ok (.string bs2) W) (hsl : (false || decide (k8 = k9)) = true) (hkk : k8 = k9) :
    Calls Tryz.prog 5 #[.bool b0, .bool false, .bool b2, .bool b3, .int .u8 (k4 : Int), .int .u64 (k5 : Int), .int .u64 (k6 : Int), .int .u64 (k7 : Int), .int .u64 (k8 : Int), .int .u64 (k9 : Int)] w fun e w' => e = .returned (.bool true) ∧ Below w.heap.size w w' := by
  subst hkk
  have HBI := Lib.hid hbi
  have HSt := Lib.hid hst
  have HRp := Lib.hid hrp
  have HCl := Lib.hid hcl
  have HSl := Lib.hid hsl
  clear hbi hst hrp hcl hsl
  go_enter Tryz.func5, Tryz.ntmps5
  go_wp2_with (first
    | (go_at_call 6; refine (HBI.out _).mono ?_; rintro e w1 ⟨rfl, hw⟩; obtain rfl := hw.symm)
    | (go_at_call 7; refine (HSt.out _).mono ?_; rintro e w1 ⟨rfl, hu1⟩; have HU1 := Lib.hid hu1; clear hu1)
    | (go_at_call 8; refine (HRp.out _).mono ?_; rintro e w2 ⟨rfl, hu2⟩; have HU2 := Lib.hid hu2; clear hu2))
  have hX2 : (w2.alloc (.cells (stC v2) 25)).heap[w1.heap.size]? = some (.cells (stC v) 25 (0, 0)) := (Below.heap_alloc _ _ _ (heap_lt (HU2.out.heap (heap_alloc_new w1 (.cells (stC v) 25)) fun h => h))).trans (HU2.out.heap (heap_alloc_new w1 (.cells (stC v) 25)) fun h => h)
  have HX2 := Lib.hid (And.intro hX2 (heap_alloc_new w2 (.cells (stC v2) 25)))
  clear hX2
  go_loopg [25] 8 (fun k v25 wr => ∃ j : Nat, v25 = .int .u8 (j : Int) ∧ j + k = 8 ∧ Upd (fun _ => False) (w2.alloc (.cells (stC v2) 25)) wr)
  case atStart => exact ⟨0, rfl, rfl, Upd.refl _ _⟩
  case round =>
    obtain ⟨j, rfl, hjk, hU⟩ := hrel
    have hx := hU.heap HX2.out.1 fun h => h
    have hz := hU.heap HX2.out.2 fun h => h
    have x0 : wr.cell? ⟨w1.heap.size, 0, none⟩ = some (.bool v.mi) := cell_at hx 0
    have x1 : wr.cell? ⟨w1.heap.size, 1, none⟩ = some (.bool v.si) := cell_at hx 1
    have x2 : wr.cell? ⟨w1.heap.size, 2, none⟩ = some (.bool false) := cell_at hx 2
    have x3 : wr.cell? ⟨w1.heap.size, 3, none⟩ = some (.bool v.fl) := cell_at hx 3
    have x4 : wr.cell? ⟨w1.heap.size, 4, none⟩ = some (.bool v.mn) := cell_at hx 4
    have x5 : wr.cell? ⟨w1.heap.size, 5, none⟩ = some (.bool v.wn) := cell_at hx 5
    have x6 : wr.cell? ⟨w1.heap.size, 6, none⟩ = some (.bool v.sm) := cell_at hx 6
    have x7 : wr.cell? ⟨w1.heap.size, 7, none⟩ = some (.int .u64 (v.k : Int)) := cell_at hx 7
    have x8 : wr.cell? ⟨w1.heap.size, 8, none⟩ = some (.int .u64 (v.ln : Int)) := cell_at hx 8
    have x9 : wr.cell? ⟨w1.heap.size, 9, none⟩ = some (.int .u64 (v.lv : Int)) := cell_at hx 9
    have x10 : wr.cell? ⟨w1.heap.size, 10, none⟩ = some (.int .u8 (v.ws : Int)) := cell_at hx 10
    have x11 : wr.cell? ⟨w1.heap.size, 11, none⟩ = some (.int .i64 0) := cell_at hx 11
    have z0 : wr.cell? ⟨w2.heap.size, 0, none⟩ = some (.bool v2.mi) := cell_at hz 0
    have z1 : wr.cell? ⟨w2.heap.size, 1, none⟩ = some (.bool v2.si) := cell_at hz 1
    have z2 : wr.cell? ⟨w2.heap.size, 2, none⟩ = some (.bool false) := cell_at hz 2
    have z3 : wr.cell? ⟨w2.heap.size, 3, none⟩ = some (.bool v2.fl) := cell_at hz 3
    have z4 : wr.cell? ⟨w2.heap.size, 4, none⟩ = some (.bool v2.mn) := cell_at hz 4
    have z5 : wr.cell? ⟨w2.heap.size, 5, none⟩ = some (.bool v2.wn) := cell_at hz 5
    have z6 : wr.cell? ⟨w2.heap.size, 6, none⟩ = some (.bool v2.sm) := cell_at hz 6
    have z7 : wr.cell? ⟨w2.heap.size, 7, none⟩ = some (.int .u64 (v2.k : Int)) := cell_at hz 7
    have z8 : wr.cell? ⟨w2.heap.size, 8, none⟩ = some (.int .u64 (v2.ln : Int)) := cell_at hz 8
    have z9 : wr.cell? ⟨w2.heap.size, 9, none⟩ = some (.int .u64 (v2.lv : Int)) := cell_at hz 9
    have z10 : wr.cell? ⟨w2.heap.size, 10, none⟩ = some (.int .u8 (v2.ws : Int)) := cell_at hz 10
    have z11 : wr.cell? ⟨w2.heap.size, 11, none⟩ = some (.int .i64 0) := cell_at hz 11
    have HJ := Lib.hid (And.intro hjk (And.intro hU (And.intro hx hz)))
    clear hjk hU hx hz
    by_cases hlt : j < 8
    · have hltI : (j : Int) ≤ 7 := by omega
      have hj3 : j = 0 ∨ (1 ≤ j ∧ j ≤ 3) ∨ 4 ≤ j := by omega
      rcases hj3 with hj | ⟨hj1, hj2⟩ | hj
      · have hjA : (j : Int) < 1 := by omega
        have hk : endK j = false := by rw [hj]; rfl
        have hC := HCl.out [j] 0 false (.slice (some ⟨wr.heap.size, 0, none⟩) 1 1) (wr.alloc (.cells #[.int .u8 (j : Int)] 5)) (by rw [HSl.out]; simp [endKs, hk]) (by simp) (by decide) (ks_one j)
        simp only [Bool.false_eq_true, if_false] at hC
        have HC := Lib.hid hC
        have HE := Lib.hid (fun W : World => st_neq v2 W)
        clear hC hk hj
        go_wp2_with (go_at_call 13; refine HC.out.mono ?_; rintro e w5 ⟨rfl, hu5⟩
                     have hz5 := hu5.heap ((Below.heap_alloc wr (.cells #[.int .u8 (j : Int)] 5) _ (heap_lt HJ.out.2.2.2)).trans HJ.out.2.2.2) fun h => h
                     have hn := HE.out
                     have hz5a := al_heap hz5 (.cells (stC v2) 25)
                     have y0 : w5.cell? ⟨w2.heap.size, 0, none⟩ = some (.bool v2.mi) := cell_at hz5 0
                     have y1 : w5.cell? ⟨w2.heap.size, 1, none⟩ = some (.bool v2.si) := cell_at hz5 1
                     have y2 : w5.cell? ⟨w2.heap.size, 2, none⟩ = some (.bool false) := cell_at hz5 2
                     have y3 : w5.cell? ⟨w2.heap.size, 3, none⟩ = some (.bool v2.fl) := cell_at hz5 3
                     have y4 : w5.cell? ⟨w2.heap.size, 4, none⟩ = some (.bool v2.mn) := cell_at hz5 4
                     have y5 : w5.cell? ⟨w2.heap.size, 5, none⟩ = some (.bool v2.wn) := cell_at hz5 5
                     have y6 : w5.cell? ⟨w2.heap.size, 6, none⟩ = some (.bool v2.sm) := cell_at hz5 6
                     have y7 : w5.cell? ⟨w2.heap.size, 7, none⟩ = some (.int .u64 (v2.k : Int)) := cell_at hz5 7
                     have y8 : w5.cell? ⟨w2.heap.size, 8, none⟩ = some (.int .u64 (v2.ln : Int)) := cell_at hz5 8
                     have y9 : w5.cell? ⟨w2.heap.size, 9, none⟩ = some (.int .u64 (v2.lv : Int)) := cell_at hz5 9
                     have y10 : w5.cell? ⟨w2.heap.size, 10, none⟩ = some (.int .u8 (v2.ws : Int)) := cell_at hz5 10
                     have y11 : w5.cell? ⟨w2.heap.size, 11, none⟩ = some (.int .i64 0) := cell_at hz5 11
                     have ya0 : (w5.alloc (.cells (stC v2) 25)).cell? ⟨w2.heap.size, 0, none⟩ = some (.bool v2.mi) := cell_at hz5a 0
                     have ya1 : (w5.alloc (.cells (stC v2) 25)).cell? ⟨w2.heap.size, 1, none⟩ = some (.bool v2.si) := cell_at hz5a 1
                     have ya2 : (w5.alloc (.cells (stC v2) 25)).cell? ⟨w2.heap.size, 2, none⟩ = some (.bool false) := cell_at hz5a 2
                     have ya3 : (w5.alloc (.cells (stC v2) 25)).cell? ⟨w2.heap.size, 3, none⟩ = some (.bool v2.fl) := cell_at hz5a 3
                     have ya4 : (w5.alloc (.cells (stC v2) 25)).cell? ⟨w2.heap.size, 4, none⟩ = some (.bool v2.mn) := cell_at hz5a 4
                     have ya5 : (w5.alloc (.cells (stC v2) 25)).cell? ⟨w2.heap.size, 5, none⟩ = some (.bool v2.wn) := cell_at hz5a 5
                     have ya6 : (w5.alloc (.cells (stC v2) 25)).cell? ⟨w2.heap.size, 6, none⟩ = some (.bool v2.sm) := cell_at hz5a 6
                     have ya7 : (w5.alloc (.cells (stC v2) 25)).cell? ⟨w2.heap.size, 7, none⟩ = some (.int .u64 (v2.k : Int)) := cell_at hz5a 7
                     have ya8 : (w5.alloc (.cells (stC v2) 25)).cell? ⟨w2.heap.size, 8, none⟩ = some (.int .u64 (v2.ln : Int)) := cell_at hz5a 8
                     have ya9 : (w5.alloc (.cells (stC v2) 25)).cell? ⟨w2.heap.size, 9, none⟩ = some (.int .u64 (v2.lv : Int)) := cell_at hz5a 9
                     have ya10 : (w5.alloc (.cells (stC v2) 25)).cell? ⟨w2.heap.size, 10, none⟩ = some (.int .u8 (v2.ws : Int)) := cell_at hz5a 10
                     have ya11 : (w5.alloc (.cells (stC v2) 25)).cell? ⟨w2.heap.size, 11, none⟩ = some (.int .i64 0) := cell_at hz5a 11
                     have HU5 := Lib.hid hu5
                     clear hz5 hz5a hu5 HC)
        go_roundg (8 - (j + 1))
        case measure => have := HJ.out.1; omega
        case rel => exact ⟨j + 1, by go_num, by have := HJ.out.1; omega, ((HJ.out.2.1.alloc _).trans HU5.out).alloc _⟩
      · have hjA : (1 : Int) ≤ (j : Int) := by omega
        have hjB : (j : Int) ≤ 3 := by omega
        have hk : endK j = true := by simp [endK, hj1, hj2]
        have hC := HCl.out [j] 0 true (.slice (some ⟨wr.heap.size, 0, none⟩) 1 1) (wr.alloc (.cells #[.int .u8 (j : Int)] 5)) (by rw [HSl.out]; simp [endKs, hk]) (by simp) (by decide) (ks_one j)
        simp only [if_true] at hC
        have HC := Lib.hid hC
        have HE := Lib.hid (fun W : World => st_neq v2 W)
        clear hC hk hj1 hj2
        go_wp2_with (go_at_call 13; refine HC.out.mono ?_; rintro e w5 ⟨rfl, hu5⟩
                     have hz5 := hu5.heap ((Below.heap_alloc wr (.cells #[.int .u8 (j : Int)] 5) _ (heap_lt HJ.out.2.2.2)).trans HJ.out.2.2.2) fun h => h
                     have hn := HE.out
                     have hz5a := al_heap hz5 (.cells (stC v2) 25)
                     have y0 : w5.cell? ⟨w2.heap.size, 0, none⟩ = some (.bool v2.mi) := cell_at hz5 0
                     have y1 : w5.cell? ⟨w2.heap.size, 1, none⟩ = some (.bool v2.si) := cell_at hz5 1
                     have y2 : w5.cell? ⟨w2.heap.size, 2, none⟩ = some (.bool false) := cell_at hz5 2
                     have y3 : w5.cell? ⟨w2.heap.size, 3, none⟩ = some (.bool v2.fl) := cell_at hz5 3
                     have y4 : w5.cell? ⟨w2.heap.size, 4, none⟩ = some (.bool v2.mn) := cell_at hz5 4
                     have y5 : w5.cell? ⟨w2.heap.size, 5, none⟩ = some (.bool v2.wn) := cell_at hz5 5
                     have y6 : w5.cell? ⟨w2.heap.size, 6, none⟩ = some (.bool v2.sm) := cell_at hz5 6
                     have y7 : w5.cell? ⟨w2.heap.size, 7, none⟩ = some (.int .u64 (v2.k : Int)) := cell_at hz5 7
                     have y8 : w5.cell? ⟨w2.heap.size, 8, none⟩ = some (.int .u64 (v2.ln : Int)) := cell_at hz5 8
                     have y9 : w5.cell? ⟨w2.heap.size, 9, none⟩ = some (.int .u64 (v2.lv : Int)) := cell_at hz5 9
                     have y10 : w5.cell? ⟨w2.heap.size, 10, none⟩ = some (.int .u8 (v2.ws : Int)) := cell_at hz5 10
                     have y11 : w5.cell? ⟨w2.heap.size, 11, none⟩ = some (.int .i64 0) := cell_at hz5 11
                     have ya0 : (w5.alloc (.cells (stC v2) 25)).cell? ⟨w2.heap.size, 0, none⟩ = some (.bool v2.mi) := cell_at hz5a 0
                     have ya1 : (w5.alloc (.cells (stC v2) 25)).cell? ⟨w2.heap.size, 1, none⟩ = some (.bool v2.si) := cell_at hz5a 1
                     have ya2 : (w5.alloc (.cells (stC v2) 25)).cell? ⟨w2.heap.size, 2, none⟩ = some (.bool false) := cell_at hz5a 2
                     have ya3 : (w5.alloc (.cells (stC v2) 25)).cell? ⟨w2.heap.size, 3, none⟩ = some (.bool v2.fl) := cell_at hz5a 3
                     have ya4 : (w5.alloc (.cells (stC v2) 25)).cell? ⟨w2.heap.size, 4, none⟩ = some (.bool v2.mn) := cell_at hz5a 4
                     have ya5 : (w5.alloc (.cells (stC v2) 25)).cell? ⟨w2.heap.size, 5, none⟩ = some (.bool v2.wn) := cell_at hz5a 5
                     have ya6 : (w5.alloc (.cells (stC v2) 25)).cell? ⟨w2.heap.size, 6, none⟩ = some (.bool v2.sm) := cell_at hz5a 6
                     have ya7 : (w5.alloc (.cells (stC v2) 25)).cell? ⟨w2.heap.size, 7, none⟩ = some (.int .u64 (v2.k : Int)) := cell_at hz5a 7
                     have ya8 : (w5.alloc (.cells (stC v2) 25)).cell? ⟨w2.heap.size, 8, none⟩ = some (.int .u64 (v2.ln : Int)) := cell_at hz5a 8
                     have ya9 : (w5.alloc (.cells (stC v2) 25)).cell? ⟨w2.heap.size, 9, none⟩ = some (.int .u64 (v2.lv : Int)) := cell_at hz5a 9
                     have ya10 : (w5.alloc (.cells (stC v2) 25)).cell? ⟨w2.heap.size, 10, none⟩ = some (.int .u8 (v2.ws : Int)) := cell_at hz5a 10
                     have ya11 : (w5.alloc (.cells (stC v2) 25)).cell? ⟨w2.heap.size, 11, none⟩ = some (.int .i64 0) := cell_at hz5a 11
                     have HU5 := Lib.hid hu5
                     clear hz5 hz5a hu5 HC)
        go_roundg (8 - (j + 1))
        case measure => have := HJ.out.1; omega
        case rel => exact ⟨j + 1, by go_num, by have := HJ.out.1; omega, ((HJ.out.2.1.alloc _).trans HU5.out).alloc _⟩
      · have hjA : (1 : Int) ≤ (j : Int) := by omega
        have hjB : (3 : Int) < (j : Int) := by omega
        have hk : endK j = false := by unfold endK; rw [Bool.and_eq_false_iff]; right; simp; omega
        have hC := HCl.out [j] 0 false (.slice (some ⟨wr.heap.size, 0, none⟩) 1 1) (wr.alloc (.cells #[.int .u8 (j : Int)] 5)) (by rw [HSl.out]; simp [endKs, hk]) (by simp) (by decide) (ks_one j)
        simp only [Bool.false_eq_true, if_false] at hC
        have HC := Lib.hid hC
        have HE := Lib.hid (fun W : World => st_neq v2 W)
        clear hC hk hj
        go_wp2_with (go_at_call 13; refine HC.out.mono ?_; rintro e w5 ⟨rfl, hu5⟩
                     have hz5 := hu5.heap ((Below.heap_alloc wr (.cells #[.int .u8 (j : Int)] 5) _ (heap_lt HJ.out.2.2.2)).trans HJ.out.2.2.2) fun h => h
                     have hn := HE.out
                     have hz5a := al_heap hz5 (.cells (stC v2) 25)
                     have y0 : w5.cell? ⟨w2.heap.size, 0, none⟩ = some (.bool v2.mi) := cell_at hz5 0
                     have y1 : w5.cell? ⟨w2.heap.size, 1, none⟩ = some (.bool v2.si) := cell_at hz5 1
                     have y2 : w5.cell? ⟨w2.heap.size, 2, none⟩ = some (.bool false) := cell_at hz5 2
                     have y3 : w5.cell? ⟨w2.heap.size, 3, none⟩ = some (.bool v2.fl) := cell_at hz5 3
                     have y4 : w5.cell? ⟨w2.heap.size, 4, none⟩ = some (.bool v2.mn) := cell_at hz5 4
                     have y5 : w5.cell? ⟨w2.heap.size, 5, none⟩ = some (.bool v2.wn) := cell_at hz5 5
                     have y6 : w5.cell? ⟨w2.heap.size, 6, none⟩ = some (.bool v2.sm) := cell_at hz5 6
                     have y7 : w5.cell? ⟨w2.heap.size, 7, none⟩ = some (.int .u64 (v2.k : Int)) := cell_at hz5 7
                     have y8 : w5.cell? ⟨w2.heap.size, 8, none⟩ = some (.int .u64 (v2.ln : Int)) := cell_at hz5 8
                     have y9 : w5.cell? ⟨w2.heap.size, 9, none⟩ = some (.int .u64 (v2.lv : Int)) := cell_at hz5 9
                     have y10 : w5.cell? ⟨w2.heap.size, 10, none⟩ = some (.int .u8 (v2.ws : Int)) := cell_at hz5 10
                     have y11 : w5.cell? ⟨w2.heap.size, 11, none⟩ = some (.int .i64 0) := cell_at hz5 11
                     have ya0 : (w5.alloc (.cells (stC v2) 25)).cell? ⟨w2.heap.size, 0, none⟩ = some (.bool v2.mi) := cell_at hz5a 0
                     have ya1 : (w5.alloc (.cells (stC v2) 25)).cell? ⟨w2.heap.size, 1, none⟩ = some (.bool v2.si) := cell_at hz5a 1
                     have ya2 : (w5.alloc (.cells (stC v2) 25)).cell? ⟨w2.heap.size, 2, none⟩ = some (.bool false) := cell_at hz5a 2
                     have ya3 : (w5.alloc (.cells (stC v2) 25)).cell? ⟨w2.heap.size, 3, none⟩ = some (.bool v2.fl) := cell_at hz5a 3
                     have ya4 : (w5.alloc (.cells (stC v2) 25)).cell? ⟨w2.heap.size, 4, none⟩ = some (.bool v2.mn) := cell_at hz5a 4
                     have ya5 : (w5.alloc (.cells (stC v2) 25)).cell? ⟨w2.heap.size, 5, none⟩ = some (.bool v2.wn) := cell_at hz5a 5
                     have ya6 : (w5.alloc (.cells (stC v2) 25)).cell? ⟨w2.heap.size, 6, none⟩ = some (.bool v2.sm) := cell_at hz5a 6
                     have ya7 : (w5.alloc (.cells (stC v2) 25)).cell? ⟨w2.heap.size, 7, none⟩ = some (.int .u64 (v2.k : Int)) := cell_at hz5a 7
                     have ya8 : (w5.alloc (.cells (stC v2) 25)).cell? ⟨w2.heap.size, 8, none⟩ = some (.int .u64 (v2.ln : Int)) := cell_at hz5a 8
                     have ya9 : (w5.alloc (.cells (stC v2) 25)).cell? ⟨w2.heap.size, 9, none⟩ = some (.int .u64 (v2.lv : Int)) := cell_at hz5a 9
                     have ya10 : (w5.alloc (.cells (stC v2) 25)).cell? ⟨w2.heap.size, 10, none⟩ = some (.int .u8 (v2.ws : Int)) := cell_at hz5a 10
                     have ya11 : (w5.alloc (.cells (stC v2) 25)).cell? ⟨w2.heap.size, 11, none⟩ = some (.int .i64 0) := cell_at hz5a 11
                     have HU5 := Lib.hid hu5
                     clear hz5 hz5a hu5 HC)
        go_roundg (8 - (j + 1))
        case measure => have := HJ.out.1; omega
        case rel => exact ⟨j + 1, by go_num, by have := HJ.out.1; omega, ((HJ.out.2.1.alloc _).trans HU5.out).alloc _⟩
    · have hltI : (7 : Int) < (j : Int) := by omega
      have hC1 := HCl.out [] 0 false (.slice none 0 0) wr (by simp [endKs]) (by decide) (by decide) (.inl ⟨rfl, rfl⟩)
      simp only [Bool.false_eq_true, if_false] at hC1
      have HC1 := Lib.hid hC1
      have HC2 := Lib.hid (fun (W : World) (n : Nat) (hn : W.heap.size = n) => HCl.out [1] 1 false (.slice (some ⟨n, 0, none⟩) 1 1) (W.alloc (.cells #[.int .u8 1] 5)) (by simp) (by decide) (by decide) (hn ▸ ks_one 1))
      have HC3 := Lib.hid (fun (W : World) (n : Nat) (hn : W.heap.size = n) => HCl.out [1, 1] 0 false (.slice (some ⟨n, 0, none⟩) 2 2) (W.alloc (.cells #[.int .u8 1, .int .u8 1] 5)) (by simp [endKs]) (by decide) (by decide) (hn ▸ ks_two 1 1))
      clear hC1
      have HE := Lib.hid (fun W : World => st_eql v2 W)
      go_wp2_with (first
        | (go_at_call 13; refine HC1.out.mono ?_; rintro e w6 ⟨rfl, hu6⟩
           have hx6 := al_heap (hu6.heap HJ.out.2.2.1 fun h => h) (.cells (stC v2) 25)
           have hz6 := al_heap (hu6.heap HJ.out.2.2.2 fun h => h) (.cells (stC v2) 25)
           have p0 : (w6.alloc (.cells (stC v2) 25)).cell? ⟨w1.heap.size, 0, none⟩ = some (.bool v.mi) := cell_at hx6 0
           have p1 : (w6.alloc (.cells (stC v2) 25)).cell? ⟨w1.heap.size, 1, none⟩ = some (.bool v.si) := cell_at hx6 1
           have p2 : (w6.alloc (.cells (stC v2) 25)).cell? ⟨w1.heap.size, 2, none⟩ = some (.bool false) := cell_at hx6 2
           have p3 : (w6.alloc (.cells (stC v2) 25)).cell? ⟨w1.heap.size, 3, none⟩ = some (.bool v.fl) := cell_at hx6 3
           have p4 : (w6.alloc (.cells (stC v2) 25)).cell? ⟨w1.heap.size, 4, none⟩ = some (.bool v.mn) := cell_at hx6 4
           have p5 : (w6.alloc (.cells (stC v2) 25)).cell? ⟨w1.heap.size, 5, none⟩ = some (.bool v.wn) := cell_at hx6 5
           have p6 : (w6.alloc (.cells (stC v2) 25)).cell? ⟨w1.heap.size, 6, none⟩ = some (.bool v.sm) := cell_at hx6 6
           have p7 : (w6.alloc (.cells (stC v2) 25)).cell? ⟨w1.heap.size, 7, none⟩ = some (.int .u64 (v.k : Int)) := cell_at hx6 7
           have p8 : (w6.alloc (.cells (stC v2) 25)).cell? ⟨w1.heap.size, 8, none⟩ = some (.int .u64 (v.ln : Int)) := cell_at hx6 8
           have p9 : (w6.alloc (.cells (stC v2) 25)).cell? ⟨w1.heap.size, 9, none⟩ = some (.int .u64 (v.lv : Int)) := cell_at hx6 9
           have p10 : (w6.alloc (.cells (stC v2) 25)).cell? ⟨w1.heap.size, 10, none⟩ = some (.int .u8 (v.ws : Int)) := cell_at hx6 10
           have p11 : (w6.alloc (.cells (stC v2) 25)).cell? ⟨w1.heap.size, 11, none⟩ = some (.int .i64 0) := cell_at hx6 11
           have H6 := Lib.hid (And.intro hu6 (And.intro hx6 (And.intro hz6 (heap_alloc_new w6 (.cells (stC v2) 25)))))
           clear hx6 hz6 hu6 HC1 x0 x1 x2 x3 x4 x5 x6 x7 x8 x9 x10 x11 z0 z1 z2 z3 z4 z5 z6 z7 z8 z9 z10 z11)
        | (go_at_call 13; refine (HC2.out _ _ (by simp)).mono ?_; rintro e w7 ⟨rfl, hu7⟩
           have hx7 := up_heap hu7 (al_heap H6.out.2.1 _) (.cells (stC v2) 25)
           have q0 : (w7.alloc (.cells (stC v2) 25)).cell? ⟨w1.heap.size, 0, none⟩ = some (.bool v.mi) := cell_at hx7 0
           have q1 : (w7.alloc (.cells (stC v2) 25)).cell? ⟨w1.heap.size, 1, none⟩ = some (.bool v.si) := cell_at hx7 1
           have q2 : (w7.alloc (.cells (stC v2) 25)).cell? ⟨w1.heap.size, 2, none⟩ = some (.bool false) := cell_at hx7 2
           have q3 : (w7.alloc (.cells (stC v2) 25)).cell? ⟨w1.heap.size, 3, none⟩ = some (.bool v.fl) := cell_at hx7 3
           have q4 : (w7.alloc (.cells (stC v2) 25)).cell? ⟨w1.heap.size, 4, none⟩ = some (.bool v.mn) := cell_at hx7 4
           have q5 : (w7.alloc (.cells (stC v2) 25)).cell? ⟨w1.heap.size, 5, none⟩ = some (.bool v.wn) := cell_at hx7 5
           have q6 : (w7.alloc (.cells (stC v2) 25)).cell? ⟨w1.heap.size, 6, none⟩ = some (.bool v.sm) := cell_at hx7 6
           have q7 : (w7.alloc (.cells (stC v2) 25)).cell? ⟨w1.heap.size, 7, none⟩ = some (.int .u64 (v.k : Int)) := cell_at hx7 7
           have q8 : (w7.alloc (.cells (stC v2) 25)).cell? ⟨w1.heap.size, 8, none⟩ = some (.int .u64 (v.ln : Int)) := cell_at hx7 8
           have q9 : (w7.alloc (.cells (stC v2) 25)).cell? ⟨w1.heap.size, 9, none⟩ = some (.int .u64 (v.lv : Int)) := cell_at hx7 9
           have q10 : (w7.alloc (.cells (stC v2) 25)).cell? ⟨w1.heap.size, 10, none⟩ = some (.int .u8 (v.ws : Int)) := cell_at hx7 10
           have q11 : (w7.alloc (.cells (stC v2) 25)).cell? ⟨w1.heap.size, 11, none⟩ = some (.int .i64 0) := cell_at hx7 11
           have H7 := Lib.hid (And.intro hu7 (And.intro (up_heap hu7 (al_heap H6.out.2.2.1 _) (.cells (stC v2) 25)) (And.intro (up_heap hu7 (al_heap H6.out.2.2.2 _) (.cells (stC v2) 25)) (heap_alloc_new w7 (.cells (stC v2) 25)))))
           clear hx7 hu7 HC2 p0 p1 p2 p3 p4 p5 p6 p7 p8 p9 p10 p11)
        | (go_at_call 13; refine (HC3.out _ _ (by simp)).mono ?_; rintro e w8 ⟨rfl, hu8⟩
           have hb := up_heap hu8 (al_heap H7.out.2.1 _) (.cells (stC v2) 25)
           have ha0 := up_heap hu8 (al_heap H7.out.2.2.1 _) (.cells (stC v2) 25)
           have ha1 := up_heap hu8 (al_heap H7.out.2.2.2 _) (.cells (stC v2) 25)
           have ha2 := heap_alloc_new w8 (.cells (stC v2) 25)
           have hq := HE.out
           have r0 : (w8.alloc (.cells (stC v2) 25)).cell? ⟨w2.heap.size, 0, none⟩ = some (.bool v2.mi) := cell_at hb 0
           have r1 : (w8.alloc (.cells (stC v2) 25)).cell? ⟨w2.heap.size, 1, none⟩ = some (.bool v2.si) := cell_at hb 1
           have r2 : (w8.alloc (.cells (stC v2) 25)).cell? ⟨w2.heap.size, 2, none⟩ = some (.bool false) := cell_at hb 2
           have r3 : (w8.alloc (.cells (stC v2) 25)).cell? ⟨w2.heap.size, 3, none⟩ = some (.bool v2.fl) := cell_at hb 3
           have r4 : (w8.alloc (.cells (stC v2) 25)).cell? ⟨w2.heap.size, 4, none⟩ = some (.bool v2.mn) := cell_at hb 4
           have r5 : (w8.alloc (.cells (stC v2) 25)).cell? ⟨w2.heap.size, 5, none⟩ = some (.bool v2.wn) := cell_at hb 5
           have r6 : (w8.alloc (.cells (stC v2) 25)).cell? ⟨w2.heap.size, 6, none⟩ = some (.bool v2.sm) := cell_at hb 6
           have r7 : (w8.alloc (.cells (stC v2) 25)).cell? ⟨w2.heap.size, 7, none⟩ = some (.int .u64 (v2.k : Int)) := cell_at hb 7
           have r8 : (w8.alloc (.cells (stC v2) 25)).cell? ⟨w2.heap.size, 8, none⟩ = some (.int .u64 (v2.ln : Int)) := cell_at hb 8
           have r9 : (w8.alloc (.cells (stC v2) 25)).cell? ⟨w2.heap.size, 9, none⟩ = some (.int .u64 (v2.lv : Int)) := cell_at hb 9
           have r10 : (w8.alloc (.cells (stC v2) 25)).cell? ⟨w2.heap.size, 10, none⟩ = some (.int .u8 (v2.ws : Int)) := cell_at hb 10
           have r11 : (w8.alloc (.cells (stC v2) 25)).cell? ⟨w2.heap.size, 11, none⟩ = some (.int .i64 0) := cell_at hb 11
           have s0 : (w8.alloc (.cells (stC v2) 25)).cell? ⟨w6.heap.size, 0, none⟩ = some (.bool v2.mi) := cell_at ha0 0
           have s1 : (w8.alloc (.cells (stC v2) 25)).cell? ⟨w6.heap.size, 1, none⟩ = some (.bool v2.si) := cell_at ha0 1
           have s2 : (w8.alloc (.cells (stC v2) 25)).cell? ⟨w6.heap.size, 2, none⟩ = some (.bool false) := cell_at ha0 2
           have s3 : (w8.alloc (.cells (stC v2) 25)).cell? ⟨w6.heap.size, 3, none⟩ = some (.bool v2.fl) := cell_at ha0 3
           have s4 : (w8.alloc (.cells (stC v2) 25)).cell? ⟨w6.heap.size, 4, none⟩ = some (.bool v2.mn) := cell_at ha0 4
           have s5 : (w8.alloc (.cells (stC v2) 25)).cell? ⟨w6.heap.size, 5, none⟩ = some (.bool v2.wn) := cell_at ha0 5
           have s6 : (w8.alloc (.cells (stC v2) 25)).cell? ⟨w6.heap.size, 6, none⟩ = some (.bool v2.sm) := cell_at ha0 6
           have s7 : (w8.alloc (.cells (stC v2) 25)).cell? ⟨w6.heap.size, 7, none⟩ = some (.int .u64 (v2.k : Int)) := cell_at ha0 7
           have s8 : (w8.alloc (.cells (stC v2) 25)).cell? ⟨w6.heap.size, 8, none⟩ = some (.int .u64 (v2.ln : Int)) := cell_at ha0 8
           have s9 : (w8.alloc (.cells (stC v2) 25)).cell? ⟨w6.heap.size, 9, none⟩ = some (.int .u64 (v2.lv : Int)) := cell_at ha0 9
           have s10 : (w8.alloc (.cells (stC v2) 25)).cell? ⟨w6.heap.size, 10, none⟩ = some (.int .u8 (v2.ws : Int)) := cell_at ha0 10
           have s11 : (w8.alloc (.cells (stC v2) 25)).cell? ⟨w6.heap.size, 11, none⟩ = some (.int .i64 0) := cell_at ha0 11
           have t0 : (w8.alloc (.cells (stC v2) 25)).cell? ⟨w7.heap.size, 0, none⟩ = some (.bool v2.mi) := cell_at ha1 0
           have t1 : (w8.alloc (.cells (stC v2) 25)).cell? ⟨w7.heap.size, 1, none⟩ = some (.bool v2.si) := cell_at ha1 1
           have t2 : (w8.alloc (.cells (stC v2) 25)).cell? ⟨w7.heap.size, 2, none⟩ = some (.bool false) := cell_at ha1 2
           have t3 : (w8.alloc (.cells (stC v2) 25)).cell? ⟨w7.heap.size, 3, none⟩ = some (.bool v2.fl) := cell_at ha1 3
           have t4 : (w8.alloc (.cells (stC v2) 25)).cell? ⟨w7.heap.size, 4, none⟩ = some (.bool v2.mn) := cell_at ha1 4
           have t5 : (w8.alloc (.cells (stC v2) 25)).cell? ⟨w7.heap.size, 5, none⟩ = some (.bool v2.wn) := cell_at ha1 5
           have t6 : (w8.alloc (.cells (stC v2) 25)).cell? ⟨w7.heap.size, 6, none⟩ = some (.bool v2.sm) := cell_at ha1 6
           have t7 : (w8.alloc (.cells (stC v2) 25)).cell? ⟨w7.heap.size, 7, none⟩ = some (.int .u64 (v2.k : Int)) := cell_at ha1 7
           have t8 : (w8.alloc (.cells (stC v2) 25)).cell? ⟨w7.heap.size, 8, none⟩ = some (.int .u64 (v2.ln : Int)) := cell_at ha1 8
           have t9 : (w8.alloc (.cells (stC v2) 25)).cell? ⟨w7.heap.size, 9, none⟩ = some (.int .u64 (v2.lv : Int)) := cell_at ha1 9
           have t10 : (w8.alloc (.cells (stC v2) 25)).cell? ⟨w7.heap.size, 10, none⟩ = some (.int .u8 (v2.ws : Int)) := cell_at ha1 10
           have t11 : (w8.alloc (.cells (stC v2) 25)).cell? ⟨w7.heap.size, 11, none⟩ = some (.int .i64 0) := cell_at ha1 11
           have u0 : (w8.alloc (.cells (stC v2) 25)).cell? ⟨w8.heap.size, 0, none⟩ = some (.bool v2.mi) := cell_at ha2 0
           have u1 : (w8.alloc (.cells (stC v2) 25)).cell? ⟨w8.heap.size, 1, none⟩ = some (.bool v2.si) := cell_at ha2 1
           have u2 : (w8.alloc (.cells (stC v2) 25)).cell? ⟨w8.heap.size, 2, none⟩ = some (.bool false) := cell_at ha2 2
           have u3 : (w8.alloc (.cells (stC v2) 25)).cell? ⟨w8.heap.size, 3, none⟩ = some (.bool v2.fl) := cell_at ha2 3
           have u4 : (w8.alloc (.cells (stC v2) 25)).cell? ⟨w8.heap.size, 4, none⟩ = some (.bool v2.mn) := cell_at ha2 4
           have u5 : (w8.alloc (.cells (stC v2) 25)).cell? ⟨w8.heap.size, 5, none⟩ = some (.bool v2.wn) := cell_at ha2 5
           have u6 : (w8.alloc (.cells (stC v2) 25)).cell? ⟨w8.heap.size, 6, none⟩ = some (.bool v2.sm) := cell_at ha2 6
           have u7 : (w8.alloc (.cells (stC v2) 25)).cell? ⟨w8.heap.size, 7, none⟩ = some (.int .u64 (v2.k : Int)) := cell_at ha2 7
           have u8 : (w8.alloc (.cells (stC v2) 25)).cell? ⟨w8.heap.size, 8, none⟩ = some (.int .u64 (v2.ln : Int)) := cell_at ha2 8
           have u9 : (w8.alloc (.cells (stC v2) 25)).cell? ⟨w8.heap.size, 9, none⟩ = some (.int .u64 (v2.lv : Int)) := cell_at ha2 9
           have u10 : (w8.alloc (.cells (stC v2) 25)).cell? ⟨w8.heap.size, 10, none⟩ = some (.int .u8 (v2.ws : Int)) := cell_at ha2 10
           have u11 : (w8.alloc (.cells (stC v2) 25)).cell? ⟨w8.heap.size, 11, none⟩ = some (.int .i64 0) := cell_at ha2 11
           have HU8 := Lib.hid hu8
           clear hb ha0 ha1 ha2 hu8 HC3 q0 q1 q2 q3 q4 q5 q6 q7 q8 q9 q10 q11))
      go_ret
      exact ⟨by first | rfl | simp, ((((((((((((HU1.out.alloc _).trans HU2.out).alloc _).trans HJ.out.2.1).trans H6.out.1).alloc _).alloc _).trans H7.out.1).alloc _).alloc _).trans HU8.out).alloc _).below (fun k h => h.elim) (Nat.le_refl _)⟩
end Go.Proofs.YtgcoopjkjeoflaaGreatFmtR
