/-
  n010_157.FnClosingParenSpacingTable: the walk where no space is wanted.
-/
import Derived.Test.YtjljnfmacechfaaGreatFmtCPV
namespace Go.Proofs.YtjljnfmacechfaaGreatFmt
open Go.RowKit

set_option maxRecDepth 100000 in
set_option maxHeartbeats 32000000 in
theorem cp_caseA (mi fl mn : Bool) (k6 k7 k8 k9 k10 k11 : Nat) (nl : Nat) (si : Bool) (ks : List Nat) (hnl : ((nl : Int) == 0) = false) (_hnlN : (nl == 0) = false) (hnlI : (nl : Int) ≤ 4096) (w : World) (v v2 : VS) (bs bs2 : ByteArray) (x0 : Value) (h6I : (k6 : Int) ≤ 2) (hk9I : (k9 : Int) ≤ 1048576) (hk10I : (k10 : Int) ≤ 262143) (hk11I : (k11 : Int) ≤ 262143)
    (hx0 : ∃ ao c, x0 = .slice ao ks.length c) (hnI : (ks.length : Int) ≤ 4096)
    (hzb : ∀ W : World, Calls Tryz.prog 4 #[x0, .int .i64 (nl : Int), .bool mi, .bool si, .bool fl, .bool mn, .int .u8 (k6 : Int), .int .u64 (k7 : Int), .int .u64 (k8 : Int), .int .u64 (k9 : Int), .int .u64 (k10 : Int), .int .u64 (k11 : Int)] W fun e w' => e = .returned (.bool true) ∧ W = w')
    (hbi : ∀ W : World, Calls Tryz.prog 5 #[.int .u64 (k7 : Int), .int .u64 (k8 : Int)] W fun e w' => e = .returned (.bool false) ∧ w' = W)
    (hcb : Calls Tryz.prog 6 #[x0] w fun e w' => ∃ v', e = .returned v' ∧ CpRow w' v' ks ∧ Upd (fun _ => False) w w')
    (hst : ∀ W : World, Calls Tryz.prog 7 #[.bool mi, .bool si, .bool false, .bool fl, .bool mn, .bool false, .bool false, .int .u8 (k6 : Int), .int .u64 (k7 : Int), .int .u64 (k8 : Int), .int .u64 (k9 : Int)] W fun e w' => e = .returned (stV v) ∧ Upd (fun _ => False) W w')
    (hcl : ∀ (kv : Value) (W : World), KsRd W kv ks → Calls Tryz.prog 8 #[stV v, kv, .int .i64 (nl : Int), .int .u64 (k10 : Int), .int .u64 (k11 : Int)] W fun e w' => e = .returned (.tuple #[.string bs, stV v2]) ∧ Upd (fun _ => False) W w')
    (hpm : ∀ W : World, Calls Tryz.prog 9 #[.bool mi, .bool si, .bool fl, .bool mn, .int .u64 (k7 : Int), .int .u64 (k8 : Int), .int .u64 (k9 : Int), .int .u64 (k11 : Int)] W fun e w' => e = .returned (.tuple #[.string bs, .int .u64 (v2.ln : Int), .bool v2.fl, .bool v2.mn]) ∧ Upd (fun _ => False) W w')
    (_hadd : ∀ W : World, (Op.stringOp .add ⟨#[32]⟩ bs).run Tryz.prog W = .ok (.string bs2) W) (hws : (v2.ws : Int) = 1) :
    Calls Tryz.prog 3 #[x0, .int .i64 (nl : Int), .bool mi, .bool si, .bool fl, .bool mn, .int .u8 (k6 : Int), .int .u64 (k7 : Int), .int .u64 (k8 : Int), .int .u64 (k9 : Int), .int .u64 (k10 : Int), .int .u64 (k11 : Int)] w fun e w' => e = .returned (.bool true) ∧ Below w.heap.size w w' := by
  obtain ⟨ao, cc, rfl⟩ := hx0
  have HZB := Lib.hid hzb
  have HBI := Lib.hid hbi
  have HCB := Lib.hid hcb
  have HSt := Lib.hid hst
  have HCl := Lib.hid hcl
  have HPm := Lib.hid hpm
  have HWs := Lib.hid hws
  clear hzb hbi hcb hst hcl hpm hws
  go_enter Tryz.func3, Tryz.ntmps3
  go_wp2_with (first
    | (go_at_call 4; refine (HZB.out _).mono ?_; rintro e w1 ⟨rfl, rfl⟩)
    | (go_at_call 5; refine (HBI.out _).mono ?_; rintro e w1 ⟨rfl, hw⟩; obtain rfl := hw.symm))
  refine HCB.out.mono ?_
  rintro e w1 ⟨v', rfl, hcp, hu1⟩
  obtain ⟨ao', cc', hv'⟩ := hcp.form
  have HCp := Lib.hid hcp.rd
  subst hv'
  have HU1 := Lib.hid hu1
  clear hcp hu1 HCB HZB HBI
  go_wp2_with (first
    | (go_at_call 7; refine (HSt.out _).mono ?_; rintro e w2 ⟨rfl, hu2⟩; have HU2 := Lib.hid hu2; clear hu2 HSt)
    | (go_at_call 8; refine (HCl.out _ _ (by exact HCp.out.quiet (HU2.out.alloc _))).mono ?_; rintro e w3 ⟨rfl, hu3⟩; have HU3 := Lib.hid ((HU2.out.alloc _).trans hu3); clear hu3 HCl)
    | (go_at_call 9; refine (HPm.out _).mono ?_; rintro e w4 ⟨rfl, hu4⟩
       have hz := hu4.heap (heap_alloc_new w3 (.cells (stC v2) 28)) fun h => h
       have z3 : w4.cell? ⟨w3.heap.size, 3, none⟩ = some (.bool v2.fl) := cell_at hz 3
       have z4 : w4.cell? ⟨w3.heap.size, 4, none⟩ = some (.bool v2.mn) := cell_at hz 4
       have z8 : w4.cell? ⟨w3.heap.size, 8, none⟩ = some (.int .u64 (v2.ln : Int)) := cell_at hz 8
       have z10 : w4.cell? ⟨w3.heap.size, 10, none⟩ = some (.int .u8 1) := (cell_at hz 10).trans (congrArg (fun x : Int => some (Value.int .u8 x)) HWs.out)
       have HU4 := Lib.hid (HU1.out.trans ((HU3.out.alloc _).trans hu4))
       clear hu4 hz HPm))
  go_ret
  exact ⟨by first | rfl | simp, HU4.out.below (fun k h => h.elim) (Nat.le_refl _)⟩

set_option maxRecDepth 100000 in
set_option maxHeartbeats 32000000 in
theorem cp_caseB (mi fl mn : Bool) (k6 k7 k8 k9 k10 k11 : Nat) (si : Bool) (ks : List Nat) (hn1 : ((ks.length : Int) == 1) = false) (_hn1N : (ks.length == 1) = false) (w : World) (v v2 : VS) (bs bs2 : ByteArray) (x0 : Value) (h6I : (k6 : Int) ≤ 2) (hk9I : (k9 : Int) ≤ 1048576) (hk10I : (k10 : Int) ≤ 262143) (hk11I : (k11 : Int) ≤ 262143)
    (hx0 : ∃ ao c, x0 = .slice ao ks.length c) (hnI : (ks.length : Int) ≤ 4096)
    (hzb : ∀ W : World, Calls Tryz.prog 4 #[x0, .int .i64 0, .bool mi, .bool si, .bool fl, .bool mn, .int .u8 (k6 : Int), .int .u64 (k7 : Int), .int .u64 (k8 : Int), .int .u64 (k9 : Int), .int .u64 (k10 : Int), .int .u64 (k11 : Int)] W fun e w' => e = .returned (.bool true) ∧ W = w')
    (hbi : ∀ W : World, Calls Tryz.prog 5 #[.int .u64 (k7 : Int), .int .u64 (k8 : Int)] W fun e w' => e = .returned (.bool false) ∧ w' = W)
    (hcb : Calls Tryz.prog 6 #[x0] w fun e w' => ∃ v', e = .returned v' ∧ CpRow w' v' ks ∧ Upd (fun _ => False) w w')
    (hst : ∀ W : World, Calls Tryz.prog 7 #[.bool mi, .bool si, .bool false, .bool fl, .bool mn, .bool false, .bool false, .int .u8 (k6 : Int), .int .u64 (k7 : Int), .int .u64 (k8 : Int), .int .u64 (k9 : Int)] W fun e w' => e = .returned (stV v) ∧ Upd (fun _ => False) W w')
    (hcl : ∀ (kv : Value) (W : World), KsRd W kv ks → Calls Tryz.prog 8 #[stV v, kv, .int .i64 0, .int .u64 (k10 : Int), .int .u64 (k11 : Int)] W fun e w' => e = .returned (.tuple #[.string bs, stV v2]) ∧ Upd (fun _ => False) W w')
    (hpm : ∀ W : World, Calls Tryz.prog 9 #[.bool mi, .bool si, .bool fl, .bool mn, .int .u64 (k7 : Int), .int .u64 (k8 : Int), .int .u64 (k9 : Int), .int .u64 (k11 : Int)] W fun e w' => e = .returned (.tuple #[.string bs, .int .u64 (v2.ln : Int), .bool v2.fl, .bool v2.mn]) ∧ Upd (fun _ => False) W w')
    (_hadd : ∀ W : World, (Op.stringOp .add ⟨#[32]⟩ bs).run Tryz.prog W = .ok (.string bs2) W) (hws : (v2.ws : Int) = 1) :
    Calls Tryz.prog 3 #[x0, .int .i64 0, .bool mi, .bool si, .bool fl, .bool mn, .int .u8 (k6 : Int), .int .u64 (k7 : Int), .int .u64 (k8 : Int), .int .u64 (k9 : Int), .int .u64 (k10 : Int), .int .u64 (k11 : Int)] w fun e w' => e = .returned (.bool true) ∧ Below w.heap.size w w' := by
  obtain ⟨ao, cc, rfl⟩ := hx0
  have HZB := Lib.hid hzb
  have HBI := Lib.hid hbi
  have HCB := Lib.hid hcb
  have HSt := Lib.hid hst
  have HCl := Lib.hid hcl
  have HPm := Lib.hid hpm
  have HWs := Lib.hid hws
  clear hzb hbi hcb hst hcl hpm hws
  go_enter Tryz.func3, Tryz.ntmps3
  go_wp2_with (first
    | (go_at_call 4; refine (HZB.out _).mono ?_; rintro e w1 ⟨rfl, rfl⟩)
    | (go_at_call 5; refine (HBI.out _).mono ?_; rintro e w1 ⟨rfl, hw⟩; obtain rfl := hw.symm))
  refine HCB.out.mono ?_
  rintro e w1 ⟨v', rfl, hcp, hu1⟩
  obtain ⟨ao', cc', hv'⟩ := hcp.form
  have HCp := Lib.hid hcp.rd
  subst hv'
  have HU1 := Lib.hid hu1
  clear hcp hu1 HCB HZB HBI
  go_wp2_with (first
    | (go_at_call 7; refine (HSt.out _).mono ?_; rintro e w2 ⟨rfl, hu2⟩; have HU2 := Lib.hid hu2; clear hu2 HSt)
    | (go_at_call 8; refine (HCl.out _ _ (by exact HCp.out.quiet (HU2.out.alloc _))).mono ?_; rintro e w3 ⟨rfl, hu3⟩; have HU3 := Lib.hid ((HU2.out.alloc _).trans hu3); clear hu3 HCl)
    | (go_at_call 9; refine (HPm.out _).mono ?_; rintro e w4 ⟨rfl, hu4⟩
       have hz := hu4.heap (heap_alloc_new w3 (.cells (stC v2) 28)) fun h => h
       have z3 : w4.cell? ⟨w3.heap.size, 3, none⟩ = some (.bool v2.fl) := cell_at hz 3
       have z4 : w4.cell? ⟨w3.heap.size, 4, none⟩ = some (.bool v2.mn) := cell_at hz 4
       have z8 : w4.cell? ⟨w3.heap.size, 8, none⟩ = some (.int .u64 (v2.ln : Int)) := cell_at hz 8
       have z10 : w4.cell? ⟨w3.heap.size, 10, none⟩ = some (.int .u8 1) := (cell_at hz 10).trans (congrArg (fun x : Int => some (Value.int .u8 x)) HWs.out)
       have HU4 := Lib.hid (HU1.out.trans ((HU3.out.alloc _).trans hu4))
       clear hu4 hz HPm))
  go_ret
  exact ⟨by first | rfl | simp, HU4.out.below (fun k h => h.elim) (Nat.le_refl _)⟩

set_option maxRecDepth 100000 in
set_option maxHeartbeats 32000000 in
theorem cp_caseC (mi fl mn : Bool) (k6 k7 k8 k9 k10 k11 : Nat) (si : Bool) (w : World) (v v2 : VS) (bs bs2 : ByteArray) (x0 : Value) (h6I : (k6 : Int) ≤ 2) (hk9I : (k9 : Int) ≤ 1048576) (hk10I : (k10 : Int) ≤ 262143) (hk11I : (k11 : Int) ≤ 262143)
    (hx0 : ∃ ao c, x0 = .slice ao 1 c) (_hnI : True)
    (hzb : ∀ W : World, Calls Tryz.prog 4 #[x0, .int .i64 0, .bool mi, .bool si, .bool fl, .bool mn, .int .u8 (k6 : Int), .int .u64 (k7 : Int), .int .u64 (k8 : Int), .int .u64 (k9 : Int), .int .u64 (k10 : Int), .int .u64 (k11 : Int)] W fun e w' => e = .returned (.bool true) ∧ W = w')
    (hbi : ∀ W : World, Calls Tryz.prog 5 #[.int .u64 (k7 : Int), .int .u64 (k8 : Int)] W fun e w' => e = .returned (.bool false) ∧ w' = W)
    (hcb : Calls Tryz.prog 6 #[x0] w fun e w' => ∃ v', e = .returned v' ∧ CpRow w' v' [0] ∧ Upd (fun _ => False) w w')
    (hst : ∀ W : World, Calls Tryz.prog 7 #[.bool mi, .bool si, .bool false, .bool fl, .bool mn, .bool false, .bool false, .int .u8 (k6 : Int), .int .u64 (k7 : Int), .int .u64 (k8 : Int), .int .u64 (k9 : Int)] W fun e w' => e = .returned (stV v) ∧ Upd (fun _ => False) W w')
    (hcl : ∀ (kv : Value) (W : World), KsRd W kv [0] → Calls Tryz.prog 8 #[stV v, kv, .int .i64 0, .int .u64 (k10 : Int), .int .u64 (k11 : Int)] W fun e w' => e = .returned (.tuple #[.string bs, stV v2]) ∧ Upd (fun _ => False) W w')
    (hpm : ∀ W : World, Calls Tryz.prog 9 #[.bool mi, .bool si, .bool fl, .bool mn, .int .u64 (k7 : Int), .int .u64 (k8 : Int), .int .u64 (k9 : Int), .int .u64 (k11 : Int)] W fun e w' => e = .returned (.tuple #[.string bs, .int .u64 (v2.ln : Int), .bool v2.fl, .bool v2.mn]) ∧ Upd (fun _ => False) W w')
    (_hadd : ∀ W : World, (Op.stringOp .add ⟨#[32]⟩ bs).run Tryz.prog W = .ok (.string bs2) W) (hws : (v2.ws : Int) = 1) :
    Calls Tryz.prog 3 #[x0, .int .i64 0, .bool mi, .bool si, .bool fl, .bool mn, .int .u8 (k6 : Int), .int .u64 (k7 : Int), .int .u64 (k8 : Int), .int .u64 (k9 : Int), .int .u64 (k10 : Int), .int .u64 (k11 : Int)] w fun e w' => e = .returned (.bool true) ∧ Below w.heap.size w w' := by
  obtain ⟨ao, cc, rfl⟩ := hx0
  have HZB := Lib.hid hzb
  have HBI := Lib.hid hbi
  have HCB := Lib.hid hcb
  have HSt := Lib.hid hst
  have HCl := Lib.hid hcl
  have HPm := Lib.hid hpm
  have HWs := Lib.hid hws
  clear hzb hbi hcb hst hcl hpm hws
  go_enter Tryz.func3, Tryz.ntmps3
  go_wp2_with (first
    | (go_at_call 4; refine (HZB.out _).mono ?_; rintro e w1 ⟨rfl, rfl⟩)
    | (go_at_call 5; refine (HBI.out _).mono ?_; rintro e w1 ⟨rfl, hw⟩; obtain rfl := hw.symm))
  refine HCB.out.mono ?_
  rintro e w1 ⟨v', rfl, hcp, hu1⟩
  obtain ⟨g, hv', hg0⟩ := hcp.one
  have HCp := Lib.hid hcp.rd
  subst hv'
  have HG := Lib.hid hg0
  have HU1 := Lib.hid hu1
  clear hcp hu1 hg0 HCB HZB HBI
  go_wp2_with (first
    | (go_at_call 7; refine (HSt.out _).mono ?_; rintro e w2 ⟨rfl, hu2⟩; have HU2 := Lib.hid hu2; clear hu2 HSt)
    | (go_at_call 8; refine (HCl.out _ _ (by exact HCp.out.quiet (HU2.out.alloc _))).mono ?_; rintro e w3 ⟨rfl, hu3⟩; have HU3 := Lib.hid ((HU2.out.alloc _).trans hu3); clear hu3 HCl)
    | (go_at_call 9; refine (HPm.out _).mono ?_; rintro e w4 ⟨rfl, hu4⟩
       have hz := hu4.heap (heap_alloc_new w3 (.cells (stC v2) 28)) fun h => h
       have z3 : w4.cell? ⟨w3.heap.size, 3, none⟩ = some (.bool v2.fl) := cell_at hz 3
       have z4 : w4.cell? ⟨w3.heap.size, 4, none⟩ = some (.bool v2.mn) := cell_at hz 4
       have z8 : w4.cell? ⟨w3.heap.size, 8, none⟩ = some (.int .u64 (v2.ln : Int)) := cell_at hz 8
       have z10 : w4.cell? ⟨w3.heap.size, 10, none⟩ = some (.int .u8 1) := (cell_at hz 10).trans (congrArg (fun x : Int => some (Value.int .u8 x)) HWs.out)
       have zk : w4.cell? ⟨g, 0, none⟩ = some (.int .u8 0) := hu4.cell ((HU3.out.alloc _).cell HG.out fun h => h) fun h => h
       have HU4 := Lib.hid (HU1.out.trans ((HU3.out.alloc _).trans hu4))
       clear hu4 hz HPm))
  go_ret
  exact ⟨by first | rfl | simp, HU4.out.below (fun k h => h.elim) (Nat.le_refl _)⟩

set_option maxRecDepth 100000 in
set_option maxHeartbeats 32000000 in
theorem cp_caseD (mi fl mn : Bool) (k6 k7 k8 k9 k10 k11 : Nat) (si : Bool) (k : Nat) (hk1 : (1 : Int) ≤ (k : Int)) (hk3 : (3 : Int) < (k : Int)) (w : World) (v v2 : VS) (bs bs2 : ByteArray) (x0 : Value) (h6I : (k6 : Int) ≤ 2) (hk9I : (k9 : Int) ≤ 1048576) (hk10I : (k10 : Int) ≤ 262143) (hk11I : (k11 : Int) ≤ 262143)
    (hx0 : ∃ ao c, x0 = .slice ao 1 c) (_hnI : True)
    (hzb : ∀ W : World, Calls Tryz.prog 4 #[x0, .int .i64 0, .bool mi, .bool si, .bool fl, .bool mn, .int .u8 (k6 : Int), .int .u64 (k7 : Int), .int .u64 (k8 : Int), .int .u64 (k9 : Int), .int .u64 (k10 : Int), .int .u64 (k11 : Int)] W fun e w' => e = .returned (.bool true) ∧ W = w')
    (hbi : ∀ W : World, Calls Tryz.prog 5 #[.int .u64 (k7 : Int), .int .u64 (k8 : Int)] W fun e w' => e = .returned (.bool false) ∧ w' = W)
    (hcb : Calls Tryz.prog 6 #[x0] w fun e w' => ∃ v', e = .returned v' ∧ CpRow w' v' [k] ∧ Upd (fun _ => False) w w')
    (hst : ∀ W : World, Calls Tryz.prog 7 #[.bool mi, .bool si, .bool false, .bool fl, .bool mn, .bool false, .bool false, .int .u8 (k6 : Int), .int .u64 (k7 : Int), .int .u64 (k8 : Int), .int .u64 (k9 : Int)] W fun e w' => e = .returned (stV v) ∧ Upd (fun _ => False) W w')
    (hcl : ∀ (kv : Value) (W : World), KsRd W kv [k] → Calls Tryz.prog 8 #[stV v, kv, .int .i64 0, .int .u64 (k10 : Int), .int .u64 (k11 : Int)] W fun e w' => e = .returned (.tuple #[.string bs, stV v2]) ∧ Upd (fun _ => False) W w')
    (hpm : ∀ W : World, Calls Tryz.prog 9 #[.bool mi, .bool si, .bool fl, .bool mn, .int .u64 (k7 : Int), .int .u64 (k8 : Int), .int .u64 (k9 : Int), .int .u64 (k11 : Int)] W fun e w' => e = .returned (.tuple #[.string bs, .int .u64 (v2.ln : Int), .bool v2.fl, .bool v2.mn]) ∧ Upd (fun _ => False) W w')
    (_hadd : ∀ W : World, (Op.stringOp .add ⟨#[32]⟩ bs).run Tryz.prog W = .ok (.string bs2) W) (hws : (v2.ws : Int) = 1) :
    Calls Tryz.prog 3 #[x0, .int .i64 0, .bool mi, .bool si, .bool fl, .bool mn, .int .u8 (k6 : Int), .int .u64 (k7 : Int), .int .u64 (k8 : Int), .int .u64 (k9 : Int), .int .u64 (k10 : Int), .int .u64 (k11 : Int)] w fun e w' => e = .returned (.bool true) ∧ Below w.heap.size w w' := by
  obtain ⟨ao, cc, rfl⟩ := hx0
  have HZB := Lib.hid hzb
  have HBI := Lib.hid hbi
  have HCB := Lib.hid hcb
  have HSt := Lib.hid hst
  have HCl := Lib.hid hcl
  have HPm := Lib.hid hpm
  have HWs := Lib.hid hws
  clear hzb hbi hcb hst hcl hpm hws
  go_enter Tryz.func3, Tryz.ntmps3
  go_wp2_with (first
    | (go_at_call 4; refine (HZB.out _).mono ?_; rintro e w1 ⟨rfl, rfl⟩)
    | (go_at_call 5; refine (HBI.out _).mono ?_; rintro e w1 ⟨rfl, hw⟩; obtain rfl := hw.symm))
  refine HCB.out.mono ?_
  rintro e w1 ⟨v', rfl, hcp, hu1⟩
  obtain ⟨g, hv', hg0⟩ := hcp.one
  have HCp := Lib.hid hcp.rd
  subst hv'
  have HG := Lib.hid hg0
  have HU1 := Lib.hid hu1
  clear hcp hu1 hg0 HCB HZB HBI
  go_wp2_with (first
    | (go_at_call 7; refine (HSt.out _).mono ?_; rintro e w2 ⟨rfl, hu2⟩; have HU2 := Lib.hid hu2; clear hu2 HSt)
    | (go_at_call 8; refine (HCl.out _ _ (by exact HCp.out.quiet (HU2.out.alloc _))).mono ?_; rintro e w3 ⟨rfl, hu3⟩; have HU3 := Lib.hid ((HU2.out.alloc _).trans hu3); clear hu3 HCl)
    | (go_at_call 9; refine (HPm.out _).mono ?_; rintro e w4 ⟨rfl, hu4⟩
       have hz := hu4.heap (heap_alloc_new w3 (.cells (stC v2) 28)) fun h => h
       have z3 : w4.cell? ⟨w3.heap.size, 3, none⟩ = some (.bool v2.fl) := cell_at hz 3
       have z4 : w4.cell? ⟨w3.heap.size, 4, none⟩ = some (.bool v2.mn) := cell_at hz 4
       have z8 : w4.cell? ⟨w3.heap.size, 8, none⟩ = some (.int .u64 (v2.ln : Int)) := cell_at hz 8
       have z10 : w4.cell? ⟨w3.heap.size, 10, none⟩ = some (.int .u8 1) := (cell_at hz 10).trans (congrArg (fun x : Int => some (Value.int .u8 x)) HWs.out)
       have zk : w4.cell? ⟨g, 0, none⟩ = some (.int .u8 (k : Int)) := hu4.cell ((HU3.out.alloc _).cell HG.out fun h => h) fun h => h
       have HU4 := Lib.hid (HU1.out.trans ((HU3.out.alloc _).trans hu4))
       clear hu4 hz HPm))
  go_ret
  exact ⟨by first | rfl | simp, HU4.out.below (fun k h => h.elim) (Nat.le_refl _)⟩

end Go.Proofs.YtjljnfmacechfaaGreatFmt
