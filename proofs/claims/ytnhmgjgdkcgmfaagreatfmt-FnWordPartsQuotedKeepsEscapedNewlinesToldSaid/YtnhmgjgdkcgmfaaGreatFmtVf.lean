/-
  The Printer in use: a double-quoted part.
-/
import Derived.Test.YtnhmgjgdkcgmfaaGreatFmtVe
namespace Go.Proofs.YtnhmgjgdkcgmfaaGreatFmt
open Go.RowKit

/-- A double-quoted part. -/
def dblO (lo llc ro rlc : Nat) (dollar : Bool) (ps : Value) : Obj := .cells #[.int .u32 (lo : Int), .int .u32 (llc : Int), .int .u32 (ro : Int), .int .u32 (rlc : Int), .bool dollar, ps] 47 (0, 0)
def dblText (dollar : Bool) (ln : Nat) (ps : List LitP) (R : Nat) : List UInt8 := (if dollar then [36] else []) ++ [34] ++ qText ln ps ++ nls (R - qLn ln ps) ++ [34]

section
variable {T : Sink} {pb b : Nat} {tv : Value} {B : Base} {w : World} {l : List UInt8} {v : VS}

set_option maxRecDepth 100000 in
set_option maxHeartbeats 8000000 in
theorem v_dbl_ne (hT : TOk T) (h : PX T pb b tv B w l v) {db lo llc ro rlc M : Nat} {pa : Option Addr} {pc : Nat} (hA : B.At pb db (dblO lo llc ro rlc false (.slice pa 0 pc))) (hrl : rlc < 4294967296) (hm0 : v.ln ≤ M) (hR : rlc / 16384 ≤ M) (hMb : M ≤ 4294967296) (hl : l.length + 4 * M + 10 ≤ LIM) :
    Calls Tryz.prog 91 #[.pointer (some ⟨pb, 0, none⟩), .pointer (some ⟨db, 0, none⟩)] w fun e w' => e = .returned (.tuple #[]) ∧ PX T pb b tv B w' (l ++ dblText false v.ln [] (rlc / 16384)) { v with ln := max (qLn v.ln []) (rlc / 16384) } := by
  have hm := bw_meth_wb b
  have ha := bw_ahead_wb b
  have hmw := bw_meth_ws b
  have haw := bw_ahead_ws b
  have c0 := h.c0
  have e4 : w.cell? ⟨db, 4, none⟩ = some (.bool false) := cell_at (h.at hA) 4
  have HA := Lib.hid hA
  have HK := Lib.hid (And.intro hl (And.intro hm0 (And.intro hR hMb)))
  have HRl := Lib.hid hrl
  have hx0 := h
  clear h hA hl hm0 hR hMb hrl
  have HW1 := Lib.hid (v_wb hT hx0 34 (x := 34) rfl (hT.ok 34 rfl) (by have := HK.out.1; omega))
  clear hx0 
  go_enter Tryz.func91, Tryz.ntmps91
  go_wp2_with (go_at_call 227; refine HW1.out.mono ?_)
  rintro e w1 ⟨rfl, hx1⟩
  have e5 : w1.cell? ⟨db, 5, none⟩ = some (.slice pa 0 pc) := cell_at (hx1.at HA.out) 5
  have HX2 := Lib.hid hx1
  clear hx1 c0
  obtain ⟨m0, hm0⟩ : ∃ m0, m0 = v.ln := ⟨_, rfl⟩
  have HM0 := Lib.hid hm0
  have hm0M : m0 ≤ M := by rw [hm0]; exact HK.out.2.1
  have hbl : (l ++ [34]).length + 2 * (M - m0) + 8 ≤ LIM := by
    have h1 := HK.out.1
    simp only [List.length_append, List.length_singleton]
    omega
  have HBl := Lib.hid (And.intro hbl hm0M)
  clear hbl hm0M hm0
  go_wp2_with fail
  go_loopg [] (rlc / 16384 - m0) (fun k wx => ∃ m : Nat, m0 ≤ m ∧ (m ≤ rlc / 16384 ∨ m = m0) ∧ k = rlc / 16384 - m ∧ PX T pb b tv B wx ((l ++ [34]) ++ nls (m - m0)) { v with ln := m })
  case atStart => exact ⟨m0, Nat.le_refl _, .inr rfl, rfl, HX2.out.cast (by rw [Nat.sub_self]; simp [nls]) (by rw [HM0.out])⟩
  case round =>
    obtain ⟨m, hm0, hm1, rfl, hX⟩ := hrel
    have c19 : wr.cell? ⟨pb, 19, none⟩ = some (.int .u64 (m : Int)) := hX.c19
    have d2 : wr.cell? ⟨db, 2, none⟩ = some (.int .u32 (ro : Int)) := cell_at (hX.at HA.out) 2
    have d3 : wr.cell? ⟨db, 3, none⟩ = some (.int .u32 (rlc : Int)) := cell_at (hX.at HA.out) 3
    have hmb : m ≤ 4294967296 := by
      have h1 := HK.out.2.2.1
      have h2 := HK.out.2.2.2
      have h3 := HBl.out.2
      omega
    have hmbI : (m : Int) ≤ 4294967296 := by omega
    have HXi := Lib.hid hX
    have HM := Lib.hid (And.intro hm0 hm1)
    clear hX hm0 hm1 hmb
    by_cases hgo : m < rlc / 16384
    · have hgoI : (m : Int) < ((rlc / 16384 : Nat) : Int) := by omega
      have HGo := Lib.hid hgo
      clear hgo
      go_wp2_with fail
      go_region_held3 (fun w' => w'.cell? ⟨pb, 19, none⟩ = some (.int .u64 (m : Int)) ∧ w'.cell? ⟨db, 2, none⟩ = some (.int .u32 (ro : Int)) ∧ w'.cell? ⟨db, 3, none⟩ = some (.int .u32 (rlc : Int))) (first | exact ⟨c19, d2, d3⟩ | exact ⟨k1, k2, k3⟩ | simp [go_sem, *])
        (first
          | (go_at_call 35; refine (pos_line _ _ HRl.out _).mono ?_; rintro e w2 ⟨rfl, hu2⟩
             have k1 := hu2.cell (show wr.drew.cell? ⟨pb, 19, none⟩ = _ from c19) fun h => h
             have k2 := hu2.cell (show wr.drew.cell? ⟨db, 2, none⟩ = _ from d2) fun h => h
             have k3 := hu2.cell (show wr.drew.cell? ⟨db, 3, none⟩ = _ from d3) fun h => h
             have HU2 := Lib.hid hu2
             clear hu2))
      have hX2 := HXi.out.quiet hT (((Upd.refl (fun _ => False) wr).drew).trans HU2.out)
      have c0 := hX2.c0
      have HWs := Lib.hid (v_ws hT hX2 ⟨#[92, 10]⟩ (fun c hc => hT.ok c (by
        have h1 : c = 92 ∨ c = 10 := by simpa using hc
        rcases h1 with rfl | rfl <;> rfl)) (by
          have h1 := HBl.out.1
          have h2 := HM.out
          have h3 := HGo.out
          have h4 := HK.out.2.2.1
          have h6 : (ByteArray.mk #[92, 10]).size = 2 := rfl
          rw [List.length_append, nls_len, h6]
          omega))
      clear hX2 HU2
      go_wp2_with (go_at_call 228; refine HWs.out.mono ?_; rintro e w3 ⟨rfl, hX3⟩
                   have d19 : w3.cell? ⟨pb, 19, none⟩ = some (.int .u64 (m : Int)) := hX3.c19
                   have f19 := hX3.fz 19
                   have HX3 := Lib.hid hX3
                   clear hX3)
      go_roundg (rlc / 16384 - (m + 1))
      case measure => have := HGo.out; omega
      case rel =>
        refine ⟨m + 1, by have := HM.out.1; omega, .inl HGo.out, rfl, (HX3.out.setc hT { v with ln := m + 1 } (fun _ => rfl) rfl).cast ?_ rfl⟩
        rw [show m + 1 - m0 = (m - m0) + 1 by have := HM.out.1; omega]
        simp only [nls, List.append_assoc]
    · have hgoI : ¬ (m : Int) < ((rlc / 16384 : Nat) : Int) := by omega
      have HGo := Lib.hid hgo
      clear hgo
      go_wp2_with fail
      go_region_held3 (fun w' => w'.cell? ⟨pb, 19, none⟩ = some (.int .u64 (m : Int)) ∧ w'.cell? ⟨db, 2, none⟩ = some (.int .u32 (ro : Int)) ∧ w'.cell? ⟨db, 3, none⟩ = some (.int .u32 (rlc : Int))) (first | exact ⟨c19, d2, d3⟩ | exact ⟨k1, k2, k3⟩ | simp [go_sem, *])
        (first
          | (go_at_call 35; refine (pos_line _ _ HRl.out _).mono ?_; rintro e w2 ⟨rfl, hu2⟩
             have k1 := hu2.cell (show wr.drew.cell? ⟨pb, 19, none⟩ = _ from c19) fun h => h
             have k2 := hu2.cell (show wr.drew.cell? ⟨db, 2, none⟩ = _ from d2) fun h => h
             have k3 := hu2.cell (show wr.drew.cell? ⟨db, 3, none⟩ = _ from d3) fun h => h
             have HU2 := Lib.hid hu2
             clear hu2))
      have hX2 := HXi.out.quiet hT (((Upd.refl (fun _ => False) wr).drew).trans HU2.out)
      have c0 := hX2.c0
      have HWb := Lib.hid (v_wb hT hX2 34 (x := 34) rfl (hT.ok 34 rfl) (by
          have h1 := HBl.out.1
          have h2 := HM.out
          have h4 := HK.out.2.2.1
          rw [List.length_append, nls_len]
          omega))
      clear hX2 HU2
      go_wp2_with (go_at_call 227; refine HWb.out.mono ?_; rintro e w3 ⟨rfl, hX3⟩
                   have HX3 := Lib.hid hX3
                   clear hX3)
      go_end0
      have hd : m - m0 = rlc / 16384 - m0 ∧ m = max m0 (rlc / 16384) := by
        have h1 := HM.out
        have h2 := HGo.out
        omega
      refine ⟨rfl, HX3.out.cast ?_ ?_⟩
      · rw [hd.1, HM0.out] <;> simp [dblText, qText, qLn]
      · rw [hd.2, HM0.out] <;> simp [qLn]

set_option maxRecDepth 100000 in
set_option maxHeartbeats 8000000 in
theorem v_dbl_np (hT : TOk T) (h : PX T pb b tv B w l v) {db lo llc ro rlc M : Nat} {rb pc : Nat} {ps : List LitP} (hP : PartsX (B.At pb) rb ps) (hne : ps ≠ []) (hsi : v.si = false) (hv : ∀ p ∈ ps, ∀ x ∈ p.v.data.toList, T.okb x = true ∧ x ≠ 9) (hM : ∀ p ∈ ps, p.ln ≤ M) (hA : B.At pb db (dblO lo llc ro rlc false (.slice (some ⟨rb, 0, none⟩) ps.length pc))) (hrl : rlc < 4294967296) (hm0 : v.ln ≤ M) (hR : rlc / 16384 ≤ M) (hMb : M ≤ 4294967296) (hl : l.length + 4 * M + partsSize ps + 10 ≤ LIM) :
    Calls Tryz.prog 91 #[.pointer (some ⟨pb, 0, none⟩), .pointer (some ⟨db, 0, none⟩)] w fun e w' => e = .returned (.tuple #[]) ∧ PX T pb b tv B w' (l ++ dblText false v.ln ps (rlc / 16384)) { v with ln := max (qLn v.ln ps) (rlc / 16384) } := by
  have hm := bw_meth_wb b
  have ha := bw_ahead_wb b
  have hmw := bw_meth_ws b
  have haw := bw_ahead_ws b
  have c0 := h.c0
  have e4 : w.cell? ⟨db, 4, none⟩ = some (.bool false) := cell_at (h.at hA) 4
  have HA := Lib.hid hA
  have HK := Lib.hid (And.intro hl (And.intro hm0 (And.intro hR hMb)))
  have HRl := Lib.hid hrl
  have HP := Lib.hid (And.intro hP (And.intro hsi (And.intro hv (And.intro hM hne))))
  have hx0 := h
  clear h hA hl hm0 hR hMb hrl hP hsi hv hM hne
  have HW1 := Lib.hid (v_wb hT hx0 34 (x := 34) rfl (hT.ok 34 rfl) (by have := HK.out.1; omega))
  clear hx0 
  go_enter Tryz.func91, Tryz.ntmps91
  go_wp2_with (go_at_call 227; refine HW1.out.mono ?_)
  rintro e w1 ⟨rfl, hx1⟩
  have e5 : w1.cell? ⟨db, 5, none⟩ = some (.slice (some ⟨rb, 0, none⟩) ps.length pc) := cell_at (hx1.at HA.out) 5
  obtain ⟨n, hn⟩ : ∃ n, n = ps.length := ⟨_, rfl⟩
  have HC := Lib.hid (v_wordPartsQ hT hx1 (c := pc) (M := M) HP.out.1 HP.out.2.1 HP.out.2.2.1 HP.out.2.2.2.1 HK.out.2.1 HK.out.2.2.2 (by have := HK.out.1; simp only [List.length_append, List.length_singleton]; omega))
  have hn0 : (0 : Int) < (n : Int) := by have := List.length_pos_iff.2 HP.out.2.2.2.2; omega
  rw [← hn] at e5 HC
  have HN := Lib.hid hn
  clear hx1 c0 hn
  go_wp2_with (go_at_call 87; refine HC.out.mono ?_)
  rintro e w2 ⟨rfl, hx2⟩
  have HX2 := Lib.hid hx2
  clear hx2 e5
  obtain ⟨m0, hm0⟩ : ∃ m0, m0 = qLn v.ln ps := ⟨_, rfl⟩
  have HM0 := Lib.hid hm0
  have hm0M : m0 ≤ M := by rw [hm0]; exact qLn_le ps HP.out.2.2.2.1 HK.out.2.1
  have hbl : ((l ++ [34]) ++ qText v.ln ps).length + 2 * (M - m0) + 4 ≤ LIM := by
    have h1 := HK.out.1
    have h2 := qText_len v.ln ps
    rw [← hm0] at h2
    simp only [List.length_append, List.length_singleton]
    omega
  have HBl := Lib.hid (And.intro hbl hm0M)
  clear hbl hm0M hm0
  go_wp2_with fail
  go_loopg [] (rlc / 16384 - m0) (fun k wx => ∃ m : Nat, m0 ≤ m ∧ (m ≤ rlc / 16384 ∨ m = m0) ∧ k = rlc / 16384 - m ∧ PX T pb b tv B wx (((l ++ [34]) ++ qText v.ln ps) ++ nls (m - m0)) { v with ln := m })
  case atStart => exact ⟨m0, Nat.le_refl _, .inr rfl, rfl, HX2.out.cast (by rw [Nat.sub_self]; simp [nls]) (by rw [HM0.out])⟩
  case round =>
    obtain ⟨m, hm0, hm1, rfl, hX⟩ := hrel
    have c19 : wr.cell? ⟨pb, 19, none⟩ = some (.int .u64 (m : Int)) := hX.c19
    have d2 : wr.cell? ⟨db, 2, none⟩ = some (.int .u32 (ro : Int)) := cell_at (hX.at HA.out) 2
    have d3 : wr.cell? ⟨db, 3, none⟩ = some (.int .u32 (rlc : Int)) := cell_at (hX.at HA.out) 3
    have hmb : m ≤ 4294967296 := by
      have h1 := HK.out.2.2.1
      have h2 := HK.out.2.2.2
      have h3 := HBl.out.2
      omega
    have hmbI : (m : Int) ≤ 4294967296 := by omega
    have HXi := Lib.hid hX
    have HM := Lib.hid (And.intro hm0 hm1)
    clear hX hm0 hm1 hmb
    by_cases hgo : m < rlc / 16384
    · have hgoI : (m : Int) < ((rlc / 16384 : Nat) : Int) := by omega
      have HGo := Lib.hid hgo
      clear hgo
      go_wp2_with fail
      go_region_held3 (fun w' => w'.cell? ⟨pb, 19, none⟩ = some (.int .u64 (m : Int)) ∧ w'.cell? ⟨db, 2, none⟩ = some (.int .u32 (ro : Int)) ∧ w'.cell? ⟨db, 3, none⟩ = some (.int .u32 (rlc : Int))) (first | exact ⟨c19, d2, d3⟩ | exact ⟨k1, k2, k3⟩ | simp [go_sem, *])
        (first
          | (go_at_call 35; refine (pos_line _ _ HRl.out _).mono ?_; rintro e w2 ⟨rfl, hu2⟩
             have k1 := hu2.cell (show wr.drew.cell? ⟨pb, 19, none⟩ = _ from c19) fun h => h
             have k2 := hu2.cell (show wr.drew.cell? ⟨db, 2, none⟩ = _ from d2) fun h => h
             have k3 := hu2.cell (show wr.drew.cell? ⟨db, 3, none⟩ = _ from d3) fun h => h
             have HU2 := Lib.hid hu2
             clear hu2))
      have hX2 := HXi.out.quiet hT (((Upd.refl (fun _ => False) wr).drew).trans HU2.out)
      have c0 := hX2.c0
      have HWs := Lib.hid (v_ws hT hX2 ⟨#[92, 10]⟩ (fun c hc => hT.ok c (by
        have h1 : c = 92 ∨ c = 10 := by simpa using hc
        rcases h1 with rfl | rfl <;> rfl)) (by
          have h1 := HBl.out.1
          have h2 := HM.out
          have h3 := HGo.out
          have h4 := HK.out.2.2.1
          have h6 : (ByteArray.mk #[92, 10]).size = 2 := rfl
          rw [List.length_append, nls_len, h6]
          omega))
      clear hX2 HU2
      go_wp2_with (go_at_call 228; refine HWs.out.mono ?_; rintro e w3 ⟨rfl, hX3⟩
                   have d19 : w3.cell? ⟨pb, 19, none⟩ = some (.int .u64 (m : Int)) := hX3.c19
                   have f19 := hX3.fz 19
                   have HX3 := Lib.hid hX3
                   clear hX3)
      go_roundg (rlc / 16384 - (m + 1))
      case measure => have := HGo.out; omega
      case rel =>
        refine ⟨m + 1, by have := HM.out.1; omega, .inl HGo.out, rfl, (HX3.out.setc hT { v with ln := m + 1 } (fun _ => rfl) rfl).cast ?_ rfl⟩
        rw [show m + 1 - m0 = (m - m0) + 1 by have := HM.out.1; omega]
        simp only [nls, List.append_assoc]
    · have hgoI : ¬ (m : Int) < ((rlc / 16384 : Nat) : Int) := by omega
      have HGo := Lib.hid hgo
      clear hgo
      go_wp2_with fail
      go_region_held3 (fun w' => w'.cell? ⟨pb, 19, none⟩ = some (.int .u64 (m : Int)) ∧ w'.cell? ⟨db, 2, none⟩ = some (.int .u32 (ro : Int)) ∧ w'.cell? ⟨db, 3, none⟩ = some (.int .u32 (rlc : Int))) (first | exact ⟨c19, d2, d3⟩ | exact ⟨k1, k2, k3⟩ | simp [go_sem, *])
        (first
          | (go_at_call 35; refine (pos_line _ _ HRl.out _).mono ?_; rintro e w2 ⟨rfl, hu2⟩
             have k1 := hu2.cell (show wr.drew.cell? ⟨pb, 19, none⟩ = _ from c19) fun h => h
             have k2 := hu2.cell (show wr.drew.cell? ⟨db, 2, none⟩ = _ from d2) fun h => h
             have k3 := hu2.cell (show wr.drew.cell? ⟨db, 3, none⟩ = _ from d3) fun h => h
             have HU2 := Lib.hid hu2
             clear hu2))
      have hX2 := HXi.out.quiet hT (((Upd.refl (fun _ => False) wr).drew).trans HU2.out)
      have c0 := hX2.c0
      have HWb := Lib.hid (v_wb hT hX2 34 (x := 34) rfl (hT.ok 34 rfl) (by
          have h1 := HBl.out.1
          have h2 := HM.out
          have h4 := HK.out.2.2.1
          rw [List.length_append, nls_len]
          omega))
      clear hX2 HU2
      go_wp2_with (go_at_call 227; refine HWb.out.mono ?_; rintro e w3 ⟨rfl, hX3⟩
                   have HX3 := Lib.hid hX3
                   clear hX3)
      go_end0
      have hd : m - m0 = rlc / 16384 - m0 ∧ m = max m0 (rlc / 16384) := by
        have h1 := HM.out
        have h2 := HGo.out
        omega
      refine ⟨rfl, HX3.out.cast ?_ ?_⟩
      · rw [hd.1, HM0.out] <;> simp [dblText]
      · rw [hd.2, HM0.out] <;> simp [qLn]

set_option maxRecDepth 100000 in
set_option maxHeartbeats 8000000 in
theorem v_dbl_de (hT : TOk T) (h : PX T pb b tv B w l v) {db lo llc ro rlc M : Nat} {pa : Option Addr} {pc : Nat} (hA : B.At pb db (dblO lo llc ro rlc true (.slice pa 0 pc))) (hrl : rlc < 4294967296) (hm0 : v.ln ≤ M) (hR : rlc / 16384 ≤ M) (hMb : M ≤ 4294967296) (hl : l.length + 4 * M + 10 ≤ LIM) :
    Calls Tryz.prog 91 #[.pointer (some ⟨pb, 0, none⟩), .pointer (some ⟨db, 0, none⟩)] w fun e w' => e = .returned (.tuple #[]) ∧ PX T pb b tv B w' (l ++ dblText true v.ln [] (rlc / 16384)) { v with ln := max (qLn v.ln []) (rlc / 16384) } := by
  have hm := bw_meth_wb b
  have ha := bw_ahead_wb b
  have hmw := bw_meth_ws b
  have haw := bw_ahead_ws b
  have c0 := h.c0
  have e4 : w.cell? ⟨db, 4, none⟩ = some (.bool true) := cell_at (h.at hA) 4
  have HA := Lib.hid hA
  have HK := Lib.hid (And.intro hl (And.intro hm0 (And.intro hR hMb)))
  have HRl := Lib.hid hrl
  have hx0 := h
  clear h hA hl hm0 hR hMb hrl
  have HW0 := Lib.hid (v_wb hT hx0 36 (x := 36) rfl (hT.ok 36 rfl) (by have := HK.out.1; omega))
  clear hx0
  go_enter Tryz.func91, Tryz.ntmps91
  go_wp2_with (go_at_call 227; refine HW0.out.mono ?_)
  rintro e w0 ⟨rfl, hx0⟩
  have c0 := hx0.c0
  have HW1 := Lib.hid (v_wb hT hx0 34 (x := 34) rfl (hT.ok 34 rfl) (by have := HK.out.1; simp only [List.length_append, List.length_singleton]; omega))
  clear hx0 e4
  go_wp2_with (go_at_call 227; refine HW1.out.mono ?_)
  rintro e w1 ⟨rfl, hx1⟩
  have e5 : w1.cell? ⟨db, 5, none⟩ = some (.slice pa 0 pc) := cell_at (hx1.at HA.out) 5
  have HX2 := Lib.hid hx1
  clear hx1 c0
  obtain ⟨m0, hm0⟩ : ∃ m0, m0 = v.ln := ⟨_, rfl⟩
  have HM0 := Lib.hid hm0
  have hm0M : m0 ≤ M := by rw [hm0]; exact HK.out.2.1
  have hbl : ((l ++ [36]) ++ [34]).length + 2 * (M - m0) + 8 ≤ LIM := by
    have h1 := HK.out.1
    simp only [List.length_append, List.length_singleton]
    omega
  have HBl := Lib.hid (And.intro hbl hm0M)
  clear hbl hm0M hm0
  go_wp2_with fail
  go_loopg [] (rlc / 16384 - m0) (fun k wx => ∃ m : Nat, m0 ≤ m ∧ (m ≤ rlc / 16384 ∨ m = m0) ∧ k = rlc / 16384 - m ∧ PX T pb b tv B wx (((l ++ [36]) ++ [34]) ++ nls (m - m0)) { v with ln := m })
  case atStart => exact ⟨m0, Nat.le_refl _, .inr rfl, rfl, HX2.out.cast (by rw [Nat.sub_self]; simp [nls]) (by rw [HM0.out])⟩
  case round =>
    obtain ⟨m, hm0, hm1, rfl, hX⟩ := hrel
    have c19 : wr.cell? ⟨pb, 19, none⟩ = some (.int .u64 (m : Int)) := hX.c19
    have d2 : wr.cell? ⟨db, 2, none⟩ = some (.int .u32 (ro : Int)) := cell_at (hX.at HA.out) 2
    have d3 : wr.cell? ⟨db, 3, none⟩ = some (.int .u32 (rlc : Int)) := cell_at (hX.at HA.out) 3
    have hmb : m ≤ 4294967296 := by
      have h1 := HK.out.2.2.1
      have h2 := HK.out.2.2.2
      have h3 := HBl.out.2
      omega
    have hmbI : (m : Int) ≤ 4294967296 := by omega
    have HXi := Lib.hid hX
    have HM := Lib.hid (And.intro hm0 hm1)
    clear hX hm0 hm1 hmb
    by_cases hgo : m < rlc / 16384
    · have hgoI : (m : Int) < ((rlc / 16384 : Nat) : Int) := by omega
      have HGo := Lib.hid hgo
      clear hgo
      go_wp2_with fail
      go_region_held3 (fun w' => w'.cell? ⟨pb, 19, none⟩ = some (.int .u64 (m : Int)) ∧ w'.cell? ⟨db, 2, none⟩ = some (.int .u32 (ro : Int)) ∧ w'.cell? ⟨db, 3, none⟩ = some (.int .u32 (rlc : Int))) (first | exact ⟨c19, d2, d3⟩ | exact ⟨k1, k2, k3⟩ | simp [go_sem, *])
        (first
          | (go_at_call 35; refine (pos_line _ _ HRl.out _).mono ?_; rintro e w2 ⟨rfl, hu2⟩
             have k1 := hu2.cell (show wr.drew.cell? ⟨pb, 19, none⟩ = _ from c19) fun h => h
             have k2 := hu2.cell (show wr.drew.cell? ⟨db, 2, none⟩ = _ from d2) fun h => h
             have k3 := hu2.cell (show wr.drew.cell? ⟨db, 3, none⟩ = _ from d3) fun h => h
             have HU2 := Lib.hid hu2
             clear hu2))
      have hX2 := HXi.out.quiet hT (((Upd.refl (fun _ => False) wr).drew).trans HU2.out)
      have c0 := hX2.c0
      have HWs := Lib.hid (v_ws hT hX2 ⟨#[92, 10]⟩ (fun c hc => hT.ok c (by
        have h1 : c = 92 ∨ c = 10 := by simpa using hc
        rcases h1 with rfl | rfl <;> rfl)) (by
          have h1 := HBl.out.1
          have h2 := HM.out
          have h3 := HGo.out
          have h4 := HK.out.2.2.1
          have h6 : (ByteArray.mk #[92, 10]).size = 2 := rfl
          rw [List.length_append, nls_len, h6]
          omega))
      clear hX2 HU2
      go_wp2_with (go_at_call 228; refine HWs.out.mono ?_; rintro e w3 ⟨rfl, hX3⟩
                   have d19 : w3.cell? ⟨pb, 19, none⟩ = some (.int .u64 (m : Int)) := hX3.c19
                   have f19 := hX3.fz 19
                   have HX3 := Lib.hid hX3
                   clear hX3)
      go_roundg (rlc / 16384 - (m + 1))
      case measure => have := HGo.out; omega
      case rel =>
        refine ⟨m + 1, by have := HM.out.1; omega, .inl HGo.out, rfl, (HX3.out.setc hT { v with ln := m + 1 } (fun _ => rfl) rfl).cast ?_ rfl⟩
        rw [show m + 1 - m0 = (m - m0) + 1 by have := HM.out.1; omega]
        simp only [nls, List.append_assoc]
    · have hgoI : ¬ (m : Int) < ((rlc / 16384 : Nat) : Int) := by omega
      have HGo := Lib.hid hgo
      clear hgo
      go_wp2_with fail
      go_region_held3 (fun w' => w'.cell? ⟨pb, 19, none⟩ = some (.int .u64 (m : Int)) ∧ w'.cell? ⟨db, 2, none⟩ = some (.int .u32 (ro : Int)) ∧ w'.cell? ⟨db, 3, none⟩ = some (.int .u32 (rlc : Int))) (first | exact ⟨c19, d2, d3⟩ | exact ⟨k1, k2, k3⟩ | simp [go_sem, *])
        (first
          | (go_at_call 35; refine (pos_line _ _ HRl.out _).mono ?_; rintro e w2 ⟨rfl, hu2⟩
             have k1 := hu2.cell (show wr.drew.cell? ⟨pb, 19, none⟩ = _ from c19) fun h => h
             have k2 := hu2.cell (show wr.drew.cell? ⟨db, 2, none⟩ = _ from d2) fun h => h
             have k3 := hu2.cell (show wr.drew.cell? ⟨db, 3, none⟩ = _ from d3) fun h => h
             have HU2 := Lib.hid hu2
             clear hu2))
      have hX2 := HXi.out.quiet hT (((Upd.refl (fun _ => False) wr).drew).trans HU2.out)
      have c0 := hX2.c0
      have HWb := Lib.hid (v_wb hT hX2 34 (x := 34) rfl (hT.ok 34 rfl) (by
          have h1 := HBl.out.1
          have h2 := HM.out
          have h4 := HK.out.2.2.1
          rw [List.length_append, nls_len]
          omega))
      clear hX2 HU2
      go_wp2_with (go_at_call 227; refine HWb.out.mono ?_; rintro e w3 ⟨rfl, hX3⟩
                   have HX3 := Lib.hid hX3
                   clear hX3)
      go_end0
      have hd : m - m0 = rlc / 16384 - m0 ∧ m = max m0 (rlc / 16384) := by
        have h1 := HM.out
        have h2 := HGo.out
        omega
      refine ⟨rfl, HX3.out.cast ?_ ?_⟩
      · rw [hd.1, HM0.out] <;> simp [dblText, qText, qLn]
      · rw [hd.2, HM0.out] <;> simp [qLn]

set_option maxRecDepth 100000 in
set_option maxHeartbeats 8000000 in
theorem v_dbl_dp (hT : TOk T) (h : PX T pb b tv B w l v) {db lo llc ro rlc M : Nat} {rb pc : Nat} {ps : List LitP} (hP : PartsX (B.At pb) rb ps) (hne : ps ≠ []) (hsi : v.si = false) (hv : ∀ p ∈ ps, ∀ x ∈ p.v.data.toList, T.okb x = true ∧ x ≠ 9) (hM : ∀ p ∈ ps, p.ln ≤ M) (hA : B.At pb db (dblO lo llc ro rlc true (.slice (some ⟨rb, 0, none⟩) ps.length pc))) (hrl : rlc < 4294967296) (hm0 : v.ln ≤ M) (hR : rlc / 16384 ≤ M) (hMb : M ≤ 4294967296) (hl : l.length + 4 * M + partsSize ps + 10 ≤ LIM) :
    Calls Tryz.prog 91 #[.pointer (some ⟨pb, 0, none⟩), .pointer (some ⟨db, 0, none⟩)] w fun e w' => e = .returned (.tuple #[]) ∧ PX T pb b tv B w' (l ++ dblText true v.ln ps (rlc / 16384)) { v with ln := max (qLn v.ln ps) (rlc / 16384) } := by
  have hm := bw_meth_wb b
  have ha := bw_ahead_wb b
  have hmw := bw_meth_ws b
  have haw := bw_ahead_ws b
  have c0 := h.c0
  have e4 : w.cell? ⟨db, 4, none⟩ = some (.bool true) := cell_at (h.at hA) 4
  have HA := Lib.hid hA
  have HK := Lib.hid (And.intro hl (And.intro hm0 (And.intro hR hMb)))
  have HRl := Lib.hid hrl
  have HP := Lib.hid (And.intro hP (And.intro hsi (And.intro hv (And.intro hM hne))))
  have hx0 := h
  clear h hA hl hm0 hR hMb hrl hP hsi hv hM hne
  have HW0 := Lib.hid (v_wb hT hx0 36 (x := 36) rfl (hT.ok 36 rfl) (by have := HK.out.1; omega))
  clear hx0
  go_enter Tryz.func91, Tryz.ntmps91
  go_wp2_with (go_at_call 227; refine HW0.out.mono ?_)
  rintro e w0 ⟨rfl, hx0⟩
  have c0 := hx0.c0
  have HW1 := Lib.hid (v_wb hT hx0 34 (x := 34) rfl (hT.ok 34 rfl) (by have := HK.out.1; simp only [List.length_append, List.length_singleton]; omega))
  clear hx0 e4
  go_wp2_with (go_at_call 227; refine HW1.out.mono ?_)
  rintro e w1 ⟨rfl, hx1⟩
  have e5 : w1.cell? ⟨db, 5, none⟩ = some (.slice (some ⟨rb, 0, none⟩) ps.length pc) := cell_at (hx1.at HA.out) 5
  obtain ⟨n, hn⟩ : ∃ n, n = ps.length := ⟨_, rfl⟩
  have HC := Lib.hid (v_wordPartsQ hT hx1 (c := pc) (M := M) HP.out.1 HP.out.2.1 HP.out.2.2.1 HP.out.2.2.2.1 HK.out.2.1 HK.out.2.2.2 (by have := HK.out.1; simp only [List.length_append, List.length_singleton]; omega))
  have hn0 : (0 : Int) < (n : Int) := by have := List.length_pos_iff.2 HP.out.2.2.2.2; omega
  rw [← hn] at e5 HC
  have HN := Lib.hid hn
  clear hx1 c0 hn
  go_wp2_with (go_at_call 87; refine HC.out.mono ?_)
  rintro e w2 ⟨rfl, hx2⟩
  have HX2 := Lib.hid hx2
  clear hx2 e5
  obtain ⟨m0, hm0⟩ : ∃ m0, m0 = qLn v.ln ps := ⟨_, rfl⟩
  have HM0 := Lib.hid hm0
  have hm0M : m0 ≤ M := by rw [hm0]; exact qLn_le ps HP.out.2.2.2.1 HK.out.2.1
  have hbl : (((l ++ [36]) ++ [34]) ++ qText v.ln ps).length + 2 * (M - m0) + 4 ≤ LIM := by
    have h1 := HK.out.1
    have h2 := qText_len v.ln ps
    rw [← hm0] at h2
    simp only [List.length_append, List.length_singleton]
    omega
  have HBl := Lib.hid (And.intro hbl hm0M)
  clear hbl hm0M hm0
  go_wp2_with fail
  go_loopg [] (rlc / 16384 - m0) (fun k wx => ∃ m : Nat, m0 ≤ m ∧ (m ≤ rlc / 16384 ∨ m = m0) ∧ k = rlc / 16384 - m ∧ PX T pb b tv B wx ((((l ++ [36]) ++ [34]) ++ qText v.ln ps) ++ nls (m - m0)) { v with ln := m })
  case atStart => exact ⟨m0, Nat.le_refl _, .inr rfl, rfl, HX2.out.cast (by rw [Nat.sub_self]; simp [nls]) (by rw [HM0.out])⟩
  case round =>
    obtain ⟨m, hm0, hm1, rfl, hX⟩ := hrel
    have c19 : wr.cell? ⟨pb, 19, none⟩ = some (.int .u64 (m : Int)) := hX.c19
    have d2 : wr.cell? ⟨db, 2, none⟩ = some (.int .u32 (ro : Int)) := cell_at (hX.at HA.out) 2
    have d3 : wr.cell? ⟨db, 3, none⟩ = some (.int .u32 (rlc : Int)) := cell_at (hX.at HA.out) 3
    have hmb : m ≤ 4294967296 := by
      have h1 := HK.out.2.2.1
      have h2 := HK.out.2.2.2
      have h3 := HBl.out.2
      omega
    have hmbI : (m : Int) ≤ 4294967296 := by omega
    have HXi := Lib.hid hX
    have HM := Lib.hid (And.intro hm0 hm1)
    clear hX hm0 hm1 hmb
    by_cases hgo : m < rlc / 16384
    · have hgoI : (m : Int) < ((rlc / 16384 : Nat) : Int) := by omega
      have HGo := Lib.hid hgo
      clear hgo
      go_wp2_with fail
      go_region_held3 (fun w' => w'.cell? ⟨pb, 19, none⟩ = some (.int .u64 (m : Int)) ∧ w'.cell? ⟨db, 2, none⟩ = some (.int .u32 (ro : Int)) ∧ w'.cell? ⟨db, 3, none⟩ = some (.int .u32 (rlc : Int))) (first | exact ⟨c19, d2, d3⟩ | exact ⟨k1, k2, k3⟩ | simp [go_sem, *])
        (first
          | (go_at_call 35; refine (pos_line _ _ HRl.out _).mono ?_; rintro e w2 ⟨rfl, hu2⟩
             have k1 := hu2.cell (show wr.drew.cell? ⟨pb, 19, none⟩ = _ from c19) fun h => h
             have k2 := hu2.cell (show wr.drew.cell? ⟨db, 2, none⟩ = _ from d2) fun h => h
             have k3 := hu2.cell (show wr.drew.cell? ⟨db, 3, none⟩ = _ from d3) fun h => h
             have HU2 := Lib.hid hu2
             clear hu2))
      have hX2 := HXi.out.quiet hT (((Upd.refl (fun _ => False) wr).drew).trans HU2.out)
      have c0 := hX2.c0
      have HWs := Lib.hid (v_ws hT hX2 ⟨#[92, 10]⟩ (fun c hc => hT.ok c (by
        have h1 : c = 92 ∨ c = 10 := by simpa using hc
        rcases h1 with rfl | rfl <;> rfl)) (by
          have h1 := HBl.out.1
          have h2 := HM.out
          have h3 := HGo.out
          have h4 := HK.out.2.2.1
          have h6 : (ByteArray.mk #[92, 10]).size = 2 := rfl
          rw [List.length_append, nls_len, h6]
          omega))
      clear hX2 HU2
      go_wp2_with (go_at_call 228; refine HWs.out.mono ?_; rintro e w3 ⟨rfl, hX3⟩
                   have d19 : w3.cell? ⟨pb, 19, none⟩ = some (.int .u64 (m : Int)) := hX3.c19
                   have f19 := hX3.fz 19
                   have HX3 := Lib.hid hX3
                   clear hX3)
      go_roundg (rlc / 16384 - (m + 1))
      case measure => have := HGo.out; omega
      case rel =>
        refine ⟨m + 1, by have := HM.out.1; omega, .inl HGo.out, rfl, (HX3.out.setc hT { v with ln := m + 1 } (fun _ => rfl) rfl).cast ?_ rfl⟩
        rw [show m + 1 - m0 = (m - m0) + 1 by have := HM.out.1; omega]
        simp only [nls, List.append_assoc]
    · have hgoI : ¬ (m : Int) < ((rlc / 16384 : Nat) : Int) := by omega
      have HGo := Lib.hid hgo
      clear hgo
      go_wp2_with fail
      go_region_held3 (fun w' => w'.cell? ⟨pb, 19, none⟩ = some (.int .u64 (m : Int)) ∧ w'.cell? ⟨db, 2, none⟩ = some (.int .u32 (ro : Int)) ∧ w'.cell? ⟨db, 3, none⟩ = some (.int .u32 (rlc : Int))) (first | exact ⟨c19, d2, d3⟩ | exact ⟨k1, k2, k3⟩ | simp [go_sem, *])
        (first
          | (go_at_call 35; refine (pos_line _ _ HRl.out _).mono ?_; rintro e w2 ⟨rfl, hu2⟩
             have k1 := hu2.cell (show wr.drew.cell? ⟨pb, 19, none⟩ = _ from c19) fun h => h
             have k2 := hu2.cell (show wr.drew.cell? ⟨db, 2, none⟩ = _ from d2) fun h => h
             have k3 := hu2.cell (show wr.drew.cell? ⟨db, 3, none⟩ = _ from d3) fun h => h
             have HU2 := Lib.hid hu2
             clear hu2))
      have hX2 := HXi.out.quiet hT (((Upd.refl (fun _ => False) wr).drew).trans HU2.out)
      have c0 := hX2.c0
      have HWb := Lib.hid (v_wb hT hX2 34 (x := 34) rfl (hT.ok 34 rfl) (by
          have h1 := HBl.out.1
          have h2 := HM.out
          have h4 := HK.out.2.2.1
          rw [List.length_append, nls_len]
          omega))
      clear hX2 HU2
      go_wp2_with (go_at_call 227; refine HWb.out.mono ?_; rintro e w3 ⟨rfl, hX3⟩
                   have HX3 := Lib.hid hX3
                   clear hX3)
      go_end0
      have hd : m - m0 = rlc / 16384 - m0 ∧ m = max m0 (rlc / 16384) := by
        have h1 := HM.out
        have h2 := HGo.out
        omega
      refine ⟨rfl, HX3.out.cast ?_ ?_⟩
      · rw [hd.1, HM0.out] <;> simp [dblText]
      · rw [hd.2, HM0.out] <;> simp [qLn]

end

set_option maxRecDepth 100000 in
theorem dbl_pos {db : Nat} {w : World} {lo llc ro rlc : Nat} {dollar : Bool} {ps : Value} (h : w.heap[db]? = some (dblO lo llc ro rlc dollar ps)) : Calls Tryz.prog 213 #[.pointer (some ⟨db, 0, none⟩)] w fun e w' => e = .returned (posV lo llc) ∧ Upd (fun _ => False) w w' := by
  have c0 : w.cell? ⟨db, 0, none⟩ = some (.int .u32 (lo : Int)) := cell_at h 0
  have c1 : w.cell? ⟨db, 1, none⟩ = some (.int .u32 (llc : Int)) := cell_at h 1
  have hlt : db < w.heap.size := heap_lt h
  clear h
  go_enter Tryz.func213, Tryz.ntmps213
  go_wp2
  refine bodyPost_ret (results_cell_row rfl _ _ w.heap.size _ _ (0, 0) _ rfl (heap_alloc_new w _) Tryz.underlying42 rfl (by kernel_rfl)) rfl ?_
  exact ⟨rfl, (Upd.refl _ w).alloc _⟩

section
variable {T : Sink} {pb b : Nat} {tv : Value} {B : Base} {w : World} {l : List UInt8} {v : VS}

/-- A double-quoted part of literals, whatever it holds. -/
def DblX (A : Nat → Obj → Prop) (db lo llc ro rlc : Nat) (dollar : Bool) (rb : Nat) (ps : List LitP) : Prop :=
  (ps = [] ∧ ∃ pa pc, A db (dblO lo llc ro rlc dollar (.slice pa 0 pc))) ∨ (ps ≠ [] ∧ PartsX A rb ps ∧ ∃ pc, A db (dblO lo llc ro rlc dollar (.slice (some ⟨rb, 0, none⟩) ps.length pc)))

theorem v_dblQuoted (hT : TOk T) (h : PX T pb b tv B w l v) {db lo llc ro rlc M rb : Nat} {dollar : Bool} {ps : List LitP} (hD : DblX (B.At pb) db lo llc ro rlc dollar rb ps) (hsi : v.si = false) (hv : ∀ p ∈ ps, ∀ x ∈ p.v.data.toList, T.okb x = true ∧ x ≠ 9) (hM : ∀ p ∈ ps, p.ln ≤ M)
    (hrl : rlc < 4294967296) (hm0 : v.ln ≤ M) (hR : rlc / 16384 ≤ M) (hMb : M ≤ 4294967296) (hl : l.length + 4 * M + partsSize ps + 10 ≤ LIM) :
    Calls Tryz.prog 91 #[.pointer (some ⟨pb, 0, none⟩), .pointer (some ⟨db, 0, none⟩)] w fun e w' => e = .returned (.tuple #[]) ∧ PX T pb b tv B w' (l ++ dblText dollar v.ln ps (rlc / 16384)) { v with ln := max (qLn v.ln ps) (rlc / 16384) } := by
  rcases hD with ⟨rfl, pa, pc, hA⟩ | ⟨hne, hP, pc, hA⟩
  · cases dollar
    · exact v_dbl_ne hT h hA hrl hm0 hR hMb (by simp [partsSize] at hl; omega)
    · exact v_dbl_de hT h hA hrl hm0 hR hMb (by simp [partsSize] at hl; omega)
  · cases dollar
    · exact v_dbl_np hT h hP hne hsi hv hM hA hrl hm0 hR hMb hl
    · exact v_dbl_dp hT h hP hne hsi hv hM hA hrl hm0 hR hMb hl

set_option maxRecDepth 100000 in
set_option maxHeartbeats 1000000 in
theorem v_wordPart_dbl (hT : TOk T) (h : PX T pb b tv B w l v) {db lo llc ro rlc M rb : Nat} {dollar : Bool} {ps : List LitP} (hD : DblX (B.At pb) db lo llc ro rlc dollar rb ps) (hsi : v.si = false) (hv : ∀ p ∈ ps, ∀ x ∈ p.v.data.toList, T.okb x = true ∧ x ≠ 9) (hM : ∀ p ∈ ps, p.ln ≤ M)
    (hrl : rlc < 4294967296) (hm0 : v.ln ≤ M) (hR : rlc / 16384 ≤ M) (hMb : M ≤ 4294967296) (hl : l.length + 4 * M + partsSize ps + 10 ≤ LIM) (nx : Value) :
    Calls Tryz.prog 37 #[.pointer (some ⟨pb, 0, none⟩), .iface 39 (.pointer (some ⟨db, 0, none⟩)), nx] w fun e w' => e = .returned (.tuple #[]) ∧ PX T pb b tv B w' (l ++ dblText dollar v.ln ps (rlc / 16384)) { v with ln := max (qLn v.ln ps) (rlc / 16384) } := by
  have hta1 := fun w => asrt_other (P := Tryz.prog) Tryz.underlying63 (by kernel_rfl) (t := 39) (by decide) 66 (.pointer (some ⟨db, 0, none⟩)) w
  have hta2 := fun w => asrt_other (P := Tryz.prog) Tryz.underlying211 (by kernel_rfl) (t := 39) (by decide) 66 (.pointer (some ⟨db, 0, none⟩)) w
  have hta3 := fun w => asrt_same (P := Tryz.prog) Tryz.underlying39 66 (.pointer (some ⟨db, 0, none⟩)) w
  have HC := Lib.hid (v_dblQuoted hT h hD hsi hv hM hrl hm0 hR hMb hl)
  clear h hD hsi hv hM hrl hm0 hR hMb hl
  go_enter Tryz.func37, Tryz.ntmps37
  go_wp2_with (go_at_call 91; refine HC.out.mono ?_)
  rintro e w1 ⟨rfl, h1⟩
  have H1 := Lib.hid h1
  clear h1
  go_wp2_with fail
  go_end0
  exact ⟨rfl, H1.out⟩
end
end Go.Proofs.YtnhmgjgdkcgmfaaGreatFmt
