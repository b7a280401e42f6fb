/-
  The Printer in use: rightParen, semiOrNewl, semiRsrv.
-/
import Derived.Test.YtmdkpihlhdjjaaaGreatFmtKVd
namespace Go.Proofs.YtmdkpihlhdjjaaaGreatFmt
open Go.RowKit

section
variable {T : Sink} {pb b : Nat} {tv : Value} {B : Base} {w : World} {l : List UInt8} {v : VS}

theorem mNls_len (v : VS) (L : Nat) : (mNls v L).length ≤ (mIndent v).length + 2 := by
  unfold mNls
  split
  · simp
  · split
    · split <;> simp <;> omega
    · simp

/-- What rightParen prints ahead of the parenthesis, and leaves. -/
def mRp (v : VS) (L : Nat) : List UInt8 := if v.mi then [] else mNls v L
def sRp (v : VS) (L : Nat) : VS := if v.mi then { v with ws := 1 } else { sNls v L with ws := 1 }

set_option maxRecDepth 100000 in
set_option maxHeartbeats 2000000 in
theorem v_rightParen (hT : TOk T) (h : PX T pb b tv B w l v) (o lc : Nat) (hlc : lc < 4294967296) (hk : ∀ c ∈ mIndent v, T.okb c = true) (hkl : v.k * v.lv ≤ 4294967296) (hlv : v.lv ≤ 4294967296) (hln : v.ln ≤ 4294967296) (hl : l.length + (mIndent v).length + 3 ≤ LIM) :
    Calls Tryz.prog 114 #[.pointer (some ⟨pb, 0, none⟩), posV o lc] w fun e w' => e = .returned (.tuple #[]) ∧ PX T pb b tv B w' (l ++ mRp v (lc / 16384) ++ [41]) (sRp v (lc / 16384)) := by
  have hm := bw_meth_wb b
  have ha := bw_ahead_wb b
  obtain ⟨B', h', hsub, hnew⟩ := h.base hT (w' := w.alloc (.cells #[.int .u32 (o : Int), .int .u32 (lc : Int)] 40)) ((Upd.refl _ w).alloc _)
  have hx := hnew w.heap.size _ (Nat.le_refl _) (heap_alloc_new w _)
  have hne : ¬ w.heap.size = pb := hx.2.1
  have hne' : ¬ pb = w.heap.size := fun e => hne e.symm
  have hlt := h.lt
  have HX := Lib.hid hx
  have HSub := Lib.hid hsub
  have c10 := h.c10
  have c0 := h.c0
  obtain ⟨hca, hcc, c24⟩ := h.c24
  obtain ⟨pca, pcc, c17⟩ := h.c17
  have hnl := mNls_len v (lc / 16384)
  cases hmi : v.mi
  · have e1 : mRp v (lc / 16384) = mNls v (lc / 16384) := by simp [mRp, hmi]
    have e2 : sRp v (lc / 16384) = { sNls v (lc / 16384) with ws := 1 } := by simp [sRp, hmi]
    rw [e1, e2]
    rw [hmi] at c10
    have HN := Lib.hid (v_newlines hT h' o lc hlc hk hkl hlv hln (by omega))
    have HL := Lib.hid (And.intro hl hnl)
    clear h h' hsub hnew hx hlc hk hkl hlv hln hl hnl e1 e2 hmi
    go_enter Tryz.func114, Tryz.ntmps114
    go_wp2_with (first
      | (go_at_call 68; refine HN.out.mono ?_; rintro e w1 ⟨rfl, h1⟩
         have c0 := h1.c0
         have HW := Lib.hid (v_wb hT h1 41 (x := 41) rfl (hT.ok 41 rfl) (by have := HL.out; rw [List.length_append]; omega))
         clear h1)
      | (go_at_call 242; refine HW.out.mono ?_; rintro e w2 ⟨rfl, h2⟩
         have c13 := h2.c13
         have f13 := h2.fz 13
         have HP := Lib.hid (h2.setc hT (i := 13) (val := .int .u8 1) { sNls v (lc / 16384) with ws := 1 } (fun _ => rfl) rfl)
         clear h2))
    go_end0
    exact ⟨rfl, HSub.out.back _ _ _ HP.out⟩
  · have e1 : mRp v (lc / 16384) = [] := by simp [mRp, hmi]
    have e2 : sRp v (lc / 16384) = { v with ws := 1 } := by simp [sRp, hmi]
    rw [e1, e2, List.append_nil]
    rw [hmi] at c10
    have HW := Lib.hid (v_wb hT h' 41 (x := 41) rfl (hT.ok 41 rfl) (by omega))
    clear h h' hsub hnew hx hlc hk hkl hlv hln hl hnl e1 e2 hmi
    go_enter Tryz.func114, Tryz.ntmps114
    go_wp2_with (first
      | (go_at_call 242; refine HW.out.mono ?_; rintro e w2 ⟨rfl, h2⟩
         have c13 := h2.c13
         have f13 := h2.fz 13
         have HP := Lib.hid (h2.setc hT (i := 13) (val := .int .u8 1) { v with ws := 1 } (fun _ => rfl) rfl)
         clear h2))
    go_end0
    exact ⟨rfl, HSub.out.back _ _ _ HP.out⟩

/-- What semiOrNewl prints ahead of its word, and leaves. -/
def mSon (v : VS) : List UInt8 := if wantsN v 0 false then [10] ++ mIndent v else (if v.sm then [] else [59]) ++ (if v.mi then [] else [32])
def sSon (v : VS) (L : Nat) : VS := if wantsN v 0 false then { sIndent (sNl v L) with ws := 1 } else { v with ln := max v.ln L, ws := 1 }
theorem mSon_len (v : VS) : (mSon v).length ≤ (mIndent v).length + 2 := by
  unfold mSon
  split
  · simp only [List.length_append, List.length_cons, List.length_nil]; omega
  · cases v.sm <;> cases v.mi <;> simp

set_option maxRecDepth 100000 in
set_option maxHeartbeats 4000000 in
theorem v_semiOrNewl (hT : TOk T) (h : PX T pb b tv B w l v) (s : ByteArray) (o lc : Nat) (hlc : lc < 4294967296) (hs : ∀ c ∈ s.data.toList, T.okb c = true) (hk : ∀ c ∈ mIndent v, T.okb c = true) (hkl : v.k * v.lv ≤ 4294967296) (hlv : v.lv ≤ 4294967296) (hl : l.length + (mIndent v).length + s.size + 3 ≤ LIM) :
    Calls Tryz.prog 56 #[.pointer (some ⟨pb, 0, none⟩), .string s, posV o lc] w fun e w' => e = .returned (.tuple #[]) ∧ PX T pb b tv B w' (l ++ mSon v ++ s.data.toList) (sSon v (lc / 16384)) := by
  have hm := bw_meth_wb b
  have ha := bw_ahead_wb b
  have hms := bw_meth_ws b
  have has := bw_ahead_ws b
  obtain ⟨B', h', hsub, hnew⟩ := h.base hT (w' := w.alloc (.cells #[.int .u32 (o : Int), .int .u32 (lc : Int)] 40)) ((Upd.refl _ w).alloc _)
  have hx := hnew w.heap.size _ (Nat.le_refl _) (heap_alloc_new w _)
  have hne : ¬ w.heap.size = pb := hx.2.1
  have hne' : ¬ pb = w.heap.size := fun e => hne e.symm
  have HX := Lib.hid hx
  have HSub := Lib.hid hsub
  have HLc := Lib.hid hlc
  have HH := Lib.hid h'
  have hWn := v_wants h' 0 0 (by decide) false
  rw [show wantsN v (0 / 16384) false = wantsN v 0 false from rfl] at hWn
  have HL := Lib.hid (And.intro hl (And.intro hs (And.intro hk (And.intro hkl hlv))))
  clear h h' hsub hnew hx hlc hs hk hkl hlv hl
  cases hwn : wantsN v 0 false

  · rw [hwn] at hWn
    have HWn := Lib.hid hWn
    clear hWn
    have e2 : sSon v (lc / 16384) = { v with ln := max v.ln (lc / 16384), ws := 1 } := by simp [sSon, hwn]
    rw [e2]
    clear e2
    cases hsm : v.sm <;> cases hmi : v.mi
    · have e1 : mSon v = [59, 32] := by simp [mSon, hwn, hsm, hmi]
      rw [e1]
      have HC := Lib.hid (And.intro hsm hmi)
      clear e1 hwn hsm hmi
      go_enter Tryz.func56, Tryz.ntmps56
      go_wp2_with (first
        | (go_at_call 92; refine HWn.out.mono ?_; rintro e w1 ⟨rfl, hu1⟩
           have h1 := HH.out.quiet hT hu1
           obtain ⟨hca, hcc, c24⟩ := h1.c24
           obtain ⟨pca, pcc, c17⟩ := h1.c17
           have c16 : w1.cell? ⟨pb, 16, none⟩ = some (.bool false) := h1.c16.trans (congrArg (fun z => some (Value.bool z)) HC.out.1)
           have c10 : w1.cell? ⟨pb, 10, none⟩ = some (.bool false) := h1.c10.trans (congrArg (fun z => some (Value.bool z)) HC.out.2)
           have c0 := h1.c0
           have x0 : w1.cell? ⟨w.heap.size, 0, none⟩ = some (.int .u32 (o : Int)) := cell_at (h1.at HX.out) 0
           have x1 : w1.cell? ⟨w.heap.size, 1, none⟩ = some (.int .u32 (lc : Int)) := cell_at (h1.at HX.out) 1
           have HW := Lib.hid (v_wb hT h1 59 (x := 59) rfl (hT.ok 59 rfl) (by have := HL.out.1; (try simp only [List.length_append, List.length_cons, List.length_nil]); omega))
           have HA := Lib.hid h1
           clear h1 hu1)
        | (go_at_call 242; refine HW.out.mono ?_; rintro e w2 ⟨rfl, h2⟩
           have c10 : w2.cell? ⟨pb, 10, none⟩ = some (.bool false) := h2.c10.trans (congrArg (fun z => some (Value.bool z)) HC.out.2)
           have c0 := h2.c0
           have x0 : w2.cell? ⟨w.heap.size, 0, none⟩ = some (.int .u32 (o : Int)) := cell_at (h2.at HX.out) 0
           have x1 : w2.cell? ⟨w.heap.size, 1, none⟩ = some (.int .u32 (lc : Int)) := cell_at (h2.at HX.out) 1
           have HS := Lib.hid (v_space hT h2 (by have := HL.out.1; (try simp only [List.length_append, List.length_cons, List.length_nil]); omega))
           have HA := Lib.hid h2
           clear h2)
        | (go_at_call 89; refine HS.out.mono ?_; rintro e w3 ⟨rfl, h3⟩
           have c10 : w3.cell? ⟨pb, 10, none⟩ = some (.bool false) := h3.c10.trans (congrArg (fun z => some (Value.bool z)) HC.out.2)
           have c0 := h3.c0
           have x0 : w3.cell? ⟨w.heap.size, 0, none⟩ = some (.int .u32 (o : Int)) := cell_at (h3.at HX.out) 0
           have x1 : w3.cell? ⟨w.heap.size, 1, none⟩ = some (.int .u32 (lc : Int)) := cell_at (h3.at HX.out) 1
           have HA := Lib.hid h3
           clear h3)
        | (go_at_call 41; refine (pos_line _ _ HLc.out _).mono ?_; rintro e w4 ⟨rfl, hu4⟩
           have HA4 := Lib.hid (HA.out.quiet hT hu4)
           clear hu4)
        | (go_at_call 69; refine (v_advance hT HA4.out _).mono ?_; rintro e w5 ⟨rfl, h5⟩
           have c0 := h5.c0
           have HWs := Lib.hid (v_ws hT h5 s HL.out.2.1 (by have := HL.out.1; (try simp only [List.length_append, List.length_cons, List.length_nil]); omega))
           clear h5)
        | (go_at_call 243; refine HWs.out.mono ?_; rintro e w6 ⟨rfl, h6⟩
           have c13 := h6.c13
           have f13 := h6.fz 13
           have HP := Lib.hid (h6.setc hT (i := 13) (val := .int .u8 1) { v with ln := max v.ln (lc / 16384), ws := 1 } (fun _ => rfl) rfl)
           clear h6))
      go_end0
      refine ⟨rfl, HSub.out.back _ _ _ (HP.out.cast ?_ (by simp only [HC.out.1, HC.out.2]))⟩
      simp only [List.append_assoc, List.cons_append, List.nil_append]
    · have e1 : mSon v = [59] := by simp [mSon, hwn, hsm, hmi]
      rw [e1]
      have HC := Lib.hid (And.intro hsm hmi)
      clear e1 hwn hsm hmi
      go_enter Tryz.func56, Tryz.ntmps56
      go_wp2_with (first
        | (go_at_call 92; refine HWn.out.mono ?_; rintro e w1 ⟨rfl, hu1⟩
           have h1 := HH.out.quiet hT hu1
           obtain ⟨hca, hcc, c24⟩ := h1.c24
           obtain ⟨pca, pcc, c17⟩ := h1.c17
           have c16 : w1.cell? ⟨pb, 16, none⟩ = some (.bool false) := h1.c16.trans (congrArg (fun z => some (Value.bool z)) HC.out.1)
           have c10 : w1.cell? ⟨pb, 10, none⟩ = some (.bool true) := h1.c10.trans (congrArg (fun z => some (Value.bool z)) HC.out.2)
           have c0 := h1.c0
           have x0 : w1.cell? ⟨w.heap.size, 0, none⟩ = some (.int .u32 (o : Int)) := cell_at (h1.at HX.out) 0
           have x1 : w1.cell? ⟨w.heap.size, 1, none⟩ = some (.int .u32 (lc : Int)) := cell_at (h1.at HX.out) 1
           have HW := Lib.hid (v_wb hT h1 59 (x := 59) rfl (hT.ok 59 rfl) (by have := HL.out.1; (try simp only [List.length_append, List.length_cons, List.length_nil]); omega))
           have HA := Lib.hid h1
           clear h1 hu1)
        | (go_at_call 242; refine HW.out.mono ?_; rintro e w2 ⟨rfl, h2⟩
           have c10 : w2.cell? ⟨pb, 10, none⟩ = some (.bool true) := h2.c10.trans (congrArg (fun z => some (Value.bool z)) HC.out.2)
           have c0 := h2.c0
           have x0 : w2.cell? ⟨w.heap.size, 0, none⟩ = some (.int .u32 (o : Int)) := cell_at (h2.at HX.out) 0
           have x1 : w2.cell? ⟨w.heap.size, 1, none⟩ = some (.int .u32 (lc : Int)) := cell_at (h2.at HX.out) 1
           have HA := Lib.hid h2
           clear h2)
        | (go_at_call 41; refine (pos_line _ _ HLc.out _).mono ?_; rintro e w4 ⟨rfl, hu4⟩
           have HA4 := Lib.hid (HA.out.quiet hT hu4)
           clear hu4)
        | (go_at_call 69; refine (v_advance hT HA4.out _).mono ?_; rintro e w5 ⟨rfl, h5⟩
           have c0 := h5.c0
           have HWs := Lib.hid (v_ws hT h5 s HL.out.2.1 (by have := HL.out.1; (try simp only [List.length_append, List.length_cons, List.length_nil]); omega))
           clear h5)
        | (go_at_call 243; refine HWs.out.mono ?_; rintro e w6 ⟨rfl, h6⟩
           have c13 := h6.c13
           have f13 := h6.fz 13
           have HP := Lib.hid (h6.setc hT (i := 13) (val := .int .u8 1) { v with ln := max v.ln (lc / 16384), ws := 1 } (fun _ => rfl) rfl)
           clear h6))
      go_end0
      refine ⟨rfl, HSub.out.back _ _ _ (HP.out.cast ?_ (by simp only [HC.out.1, HC.out.2]))⟩
      simp only [List.append_assoc, List.cons_append, List.nil_append]
    · have e1 : mSon v = [32] := by simp [mSon, hwn, hsm, hmi]
      rw [e1]
      have HC := Lib.hid (And.intro hsm hmi)
      clear e1 hwn hsm hmi
      go_enter Tryz.func56, Tryz.ntmps56
      go_wp2_with (first
        | (go_at_call 92; refine HWn.out.mono ?_; rintro e w1 ⟨rfl, hu1⟩
           have h1 := HH.out.quiet hT hu1
           obtain ⟨hca, hcc, c24⟩ := h1.c24
           obtain ⟨pca, pcc, c17⟩ := h1.c17
           have c16 : w1.cell? ⟨pb, 16, none⟩ = some (.bool true) := h1.c16.trans (congrArg (fun z => some (Value.bool z)) HC.out.1)
           have c10 : w1.cell? ⟨pb, 10, none⟩ = some (.bool false) := h1.c10.trans (congrArg (fun z => some (Value.bool z)) HC.out.2)
           have c0 := h1.c0
           have x0 : w1.cell? ⟨w.heap.size, 0, none⟩ = some (.int .u32 (o : Int)) := cell_at (h1.at HX.out) 0
           have x1 : w1.cell? ⟨w.heap.size, 1, none⟩ = some (.int .u32 (lc : Int)) := cell_at (h1.at HX.out) 1
           have HS := Lib.hid (v_space hT h1 (by have := HL.out.1; (try simp only [List.length_append, List.length_cons, List.length_nil]); omega))
           have HA := Lib.hid h1
           clear h1 hu1)
        | (go_at_call 89; refine HS.out.mono ?_; rintro e w3 ⟨rfl, h3⟩
           have c10 : w3.cell? ⟨pb, 10, none⟩ = some (.bool false) := h3.c10.trans (congrArg (fun z => some (Value.bool z)) HC.out.2)
           have c0 := h3.c0
           have x0 : w3.cell? ⟨w.heap.size, 0, none⟩ = some (.int .u32 (o : Int)) := cell_at (h3.at HX.out) 0
           have x1 : w3.cell? ⟨w.heap.size, 1, none⟩ = some (.int .u32 (lc : Int)) := cell_at (h3.at HX.out) 1
           have HA := Lib.hid h3
           clear h3)
        | (go_at_call 41; refine (pos_line _ _ HLc.out _).mono ?_; rintro e w4 ⟨rfl, hu4⟩
           have HA4 := Lib.hid (HA.out.quiet hT hu4)
           clear hu4)
        | (go_at_call 69; refine (v_advance hT HA4.out _).mono ?_; rintro e w5 ⟨rfl, h5⟩
           have c0 := h5.c0
           have HWs := Lib.hid (v_ws hT h5 s HL.out.2.1 (by have := HL.out.1; (try simp only [List.length_append, List.length_cons, List.length_nil]); omega))
           clear h5)
        | (go_at_call 243; refine HWs.out.mono ?_; rintro e w6 ⟨rfl, h6⟩
           have c13 := h6.c13
           have f13 := h6.fz 13
           have HP := Lib.hid (h6.setc hT (i := 13) (val := .int .u8 1) { v with ln := max v.ln (lc / 16384), ws := 1 } (fun _ => rfl) rfl)
           clear h6))
      go_end0
      refine ⟨rfl, HSub.out.back _ _ _ (HP.out.cast ?_ (by simp only [HC.out.1, HC.out.2]))⟩
      simp only [List.append_assoc, List.cons_append, List.nil_append]
    · have e1 : mSon v = [] := by simp [mSon, hwn, hsm, hmi]
      rw [e1]
      have HC := Lib.hid (And.intro hsm hmi)
      clear e1 hwn hsm hmi
      go_enter Tryz.func56, Tryz.ntmps56
      go_wp2_with (first
        | (go_at_call 92; refine HWn.out.mono ?_; rintro e w1 ⟨rfl, hu1⟩
           have h1 := HH.out.quiet hT hu1
           obtain ⟨hca, hcc, c24⟩ := h1.c24
           obtain ⟨pca, pcc, c17⟩ := h1.c17
           have c16 : w1.cell? ⟨pb, 16, none⟩ = some (.bool true) := h1.c16.trans (congrArg (fun z => some (Value.bool z)) HC.out.1)
           have c10 : w1.cell? ⟨pb, 10, none⟩ = some (.bool true) := h1.c10.trans (congrArg (fun z => some (Value.bool z)) HC.out.2)
           have c0 := h1.c0
           have x0 : w1.cell? ⟨w.heap.size, 0, none⟩ = some (.int .u32 (o : Int)) := cell_at (h1.at HX.out) 0
           have x1 : w1.cell? ⟨w.heap.size, 1, none⟩ = some (.int .u32 (lc : Int)) := cell_at (h1.at HX.out) 1
           have HA := Lib.hid h1
           clear h1 hu1)
        | (go_at_call 41; refine (pos_line _ _ HLc.out _).mono ?_; rintro e w4 ⟨rfl, hu4⟩
           have HA4 := Lib.hid (HA.out.quiet hT hu4)
           clear hu4)
        | (go_at_call 69; refine (v_advance hT HA4.out _).mono ?_; rintro e w5 ⟨rfl, h5⟩
           have c0 := h5.c0
           have HWs := Lib.hid (v_ws hT h5 s HL.out.2.1 (by have := HL.out.1; (try simp only [List.length_append, List.length_cons, List.length_nil]); omega))
           clear h5)
        | (go_at_call 243; refine HWs.out.mono ?_; rintro e w6 ⟨rfl, h6⟩
           have c13 := h6.c13
           have f13 := h6.fz 13
           have HP := Lib.hid (h6.setc hT (i := 13) (val := .int .u8 1) { v with ln := max v.ln (lc / 16384), ws := 1 } (fun _ => rfl) rfl)
           clear h6))
      go_end0
      refine ⟨rfl, HSub.out.back _ _ _ (HP.out.cast ?_ (by simp only [HC.out.1, HC.out.2]))⟩
      simp only [List.append_nil]
  · rw [hwn] at hWn
    have HWn := Lib.hid hWn
    clear hWn
    have e1 : mSon v = [10] ++ mIndent v := by simp [mSon, hwn]
    have e2 : sSon v (lc / 16384) = { sIndent (sNl v (lc / 16384)) with ws := 1 } := by simp [sSon, hwn]
    rw [e1, e2]
    have hmi1 : mIndent (sNl v (lc / 16384)) = mIndent v := rfl
    have HMi := Lib.hid hmi1
    clear e1 e2 hwn hmi1
    go_enter Tryz.func56, Tryz.ntmps56
    go_wp2_with (first
      | (go_at_call 92; refine HWn.out.mono ?_; rintro e w1 ⟨rfl, hu1⟩
         have h1 := HH.out.quiet hT hu1
         have x0 : w1.cell? ⟨w.heap.size, 0, none⟩ = some (.int .u32 (o : Int)) := cell_at (h1.at HX.out) 0
         have x1 : w1.cell? ⟨w.heap.size, 1, none⟩ = some (.int .u32 (lc : Int)) := cell_at (h1.at HX.out) 1
         have HN := Lib.hid (v_newline hT h1 o lc HLc.out (by have := HL.out.1; omega))
         clear h1 hu1)
      | (go_at_call 38; refine HN.out.mono ?_; rintro e w2 ⟨rfl, h2⟩
         have HI := Lib.hid (v_indent hT h2 (fun c hc => HL.out.2.2.1 c (HMi.out ▸ hc)) HL.out.2.2.2.1 HL.out.2.2.2.2 (by
           have h1 := HL.out.1
           rw [HMi.out]
           simp only [List.length_append, List.length_singleton]
           omega))
         clear h2)
      | (go_at_call 87; refine HI.out.mono ?_; rintro e w3 ⟨rfl, h3⟩
         have c0 := h3.c0
         have HWs := Lib.hid (v_ws hT h3 s HL.out.2.1 (by have := HL.out.1; rw [HMi.out]; simp only [List.length_append, List.length_cons, List.length_nil]; omega))
         clear h3)
      | (go_at_call 243; refine HWs.out.mono ?_; rintro e w6 ⟨rfl, h6⟩
         have c13 := h6.c13
         have f13 := h6.fz 13
         have HP := Lib.hid (h6.setc hT (i := 13) (val := .int .u8 1) { sIndent (sNl v (lc / 16384)) with ws := 1 } (fun _ => rfl) rfl)
         clear h6))
    go_end0
    refine ⟨rfl, HSub.out.back _ _ _ (HP.out.cast ?_ rfl)⟩
    rw [HMi.out]
    simp only [List.append_assoc, List.cons_append, List.nil_append]

/-- What semiRsrv prints ahead of its word, and leaves. -/
def mSr (v : VS) (L : Nat) : List UInt8 := if wantsN v L false then mNls v L else (if v.sm then [] else [59]) ++ (if v.mi then [] else spT v.ws)
def sSr (v : VS) (L : Nat) : VS := if wantsN v L false then { sNls v L with ws := 1 } else { v with ws := 1 }
theorem mSr_len (v : VS) (L : Nat) : (mSr v L).length ≤ (mIndent v).length + 2 := by
  have h1 := mNls_len v L
  have h2 := spT_len v.ws
  unfold mSr
  split
  · exact h1
  · cases v.sm <;> cases v.mi <;> simp <;> omega

set_option maxRecDepth 100000 in
set_option maxHeartbeats 4000000 in
theorem v_semiRsrv (hT : TOk T) (h : PX T pb b tv B w l v) (s : ByteArray) (o lc : Nat) (hlc : lc < 4294967296) (hs : ∀ c ∈ s.data.toList, T.okb c = true) (hk : ∀ c ∈ mIndent v, T.okb c = true) (hkl : v.k * v.lv ≤ 4294967296) (hlv : v.lv ≤ 4294967296) (hln : v.ln ≤ 4294967296) (hl : l.length + (mIndent v).length + s.size + 3 ≤ LIM) :
    Calls Tryz.prog 75 #[.pointer (some ⟨pb, 0, none⟩), .string s, posV o lc] w fun e w' => e = .returned (.tuple #[]) ∧ PX T pb b tv B w' (l ++ mSr v (lc / 16384) ++ s.data.toList) (sSr v (lc / 16384)) := by
  have hm := bw_meth_wb b
  have ha := bw_ahead_wb b
  have hms := bw_meth_ws b
  have has := bw_ahead_ws b
  obtain ⟨B', h', hsub, hnew⟩ := h.base hT (w' := w.alloc (.cells #[.int .u32 (o : Int), .int .u32 (lc : Int)] 40)) ((Upd.refl _ w).alloc _)
  have hx := hnew w.heap.size _ (Nat.le_refl _) (heap_alloc_new w _)
  have hne : ¬ w.heap.size = pb := hx.2.1
  have hne' : ¬ pb = w.heap.size := fun e => hne e.symm
  have hlt := h.lt
  have HX := Lib.hid hx
  have HSub := Lib.hid hsub
  have HLc := Lib.hid hlc
  have HH := Lib.hid h'
  have hWn := v_wants h' o lc hlc false
  have hnl := mNls_len v (lc / 16384)
  have hsp := spT_len v.ws
  have HL := Lib.hid (And.intro hl (And.intro hs (And.intro hk (And.intro hkl (And.intro hlv (And.intro hln (And.intro hnl hsp)))))))
  clear h h' hsub hnew hx hlc hs hk hkl hlv hln hl hnl hsp
  cases hwn : wantsN v (lc / 16384) false

  · rw [hwn] at hWn
    have HWn := Lib.hid hWn
    clear hWn
    have e2 : sSr v (lc / 16384) = { v with ws := 1 } := by simp [sSr, hwn]
    rw [e2]
    clear e2
    cases hsm : v.sm <;> cases hmi : v.mi
    · have e1 : mSr v (lc / 16384) = [59] ++ spT v.ws := by simp [mSr, hwn, hsm, hmi]
      rw [e1]
      have HC := Lib.hid (And.intro hsm hmi)
      clear e1 hwn hsm hmi
      go_enter Tryz.func75, Tryz.ntmps75
      go_wp2_with (first
        | (go_at_call 92; refine HWn.out.mono ?_; rintro e w1 ⟨rfl, hu1⟩
           have h1 := HH.out.quiet hT hu1
           have c16 : w1.cell? ⟨pb, 16, none⟩ = some (.bool false) := h1.c16.trans (congrArg (fun z => some (Value.bool z)) HC.out.1)
           have c10 : w1.cell? ⟨pb, 10, none⟩ = some (.bool false) := h1.c10.trans (congrArg (fun z => some (Value.bool z)) HC.out.2)
           have c0 := h1.c0
           have x0 : w1.cell? ⟨w.heap.size, 0, none⟩ = some (.int .u32 (o : Int)) := cell_at (h1.at HX.out) 0
           have x1 : w1.cell? ⟨w.heap.size, 1, none⟩ = some (.int .u32 (lc : Int)) := cell_at (h1.at HX.out) 1
           have HW := Lib.hid (v_wb hT h1 59 (x := 59) rfl (hT.ok 59 rfl) (by have h1 := HL.out.1; have h2 := HL.out.2.2.2.2.2.2.1; have h3 := HL.out.2.2.2.2.2.2.2; (try simp only [List.length_append, List.length_cons, List.length_nil]); omega))
           clear h1 hu1)
        | (go_at_call 242; refine HW.out.mono ?_; rintro e w2 ⟨rfl, h2⟩
           have c10 : w2.cell? ⟨pb, 10, none⟩ = some (.bool false) := h2.c10.trans (congrArg (fun z => some (Value.bool z)) HC.out.2)
           have c0 := h2.c0
           have x0 : w2.cell? ⟨w.heap.size, 0, none⟩ = some (.int .u32 (o : Int)) := cell_at (h2.at HX.out) 0
           have x1 : w2.cell? ⟨w.heap.size, 1, none⟩ = some (.int .u32 (lc : Int)) := cell_at (h2.at HX.out) 1
           have HS := Lib.hid (v_spacePad hT h2 o lc (by have h1 := HL.out.1; have h2 := HL.out.2.2.2.2.2.2.1; have h3 := HL.out.2.2.2.2.2.2.2; (try simp only [List.length_append, List.length_cons, List.length_nil]); omega))
           clear h2)
        | (go_at_call 71; refine HS.out.mono ?_; rintro e w3 ⟨rfl, h3⟩
           have c0 := h3.c0
           have HWs := Lib.hid (v_ws hT h3 s HL.out.2.1 (by have h1 := HL.out.1; have h2 := HL.out.2.2.2.2.2.2.1; have h3 := HL.out.2.2.2.2.2.2.2; (try simp only [List.length_append, List.length_cons, List.length_nil]); omega))
           clear h3)
        | (go_at_call 243; refine HWs.out.mono ?_; rintro e w6 ⟨rfl, h6⟩
           have c13 := h6.c13
           have f13 := h6.fz 13
           have HP := Lib.hid (h6.setc hT (i := 13) (val := .int .u8 1) { v with ws := 1 } (fun _ => rfl) rfl)
           clear h6))
      go_end0
      refine ⟨rfl, HSub.out.back _ _ _ (HP.out.cast ?_ (by simp only [HC.out.1, HC.out.2]))⟩
      simp only [List.append_assoc, List.cons_append, List.nil_append]
    · have e1 : mSr v (lc / 16384) = [59] ++ [] := by simp [mSr, hwn, hsm, hmi]
      rw [e1]
      have HC := Lib.hid (And.intro hsm hmi)
      clear e1 hwn hsm hmi
      go_enter Tryz.func75, Tryz.ntmps75
      go_wp2_with (first
        | (go_at_call 92; refine HWn.out.mono ?_; rintro e w1 ⟨rfl, hu1⟩
           have h1 := HH.out.quiet hT hu1
           have c16 : w1.cell? ⟨pb, 16, none⟩ = some (.bool false) := h1.c16.trans (congrArg (fun z => some (Value.bool z)) HC.out.1)
           have c10 : w1.cell? ⟨pb, 10, none⟩ = some (.bool true) := h1.c10.trans (congrArg (fun z => some (Value.bool z)) HC.out.2)
           have c0 := h1.c0
           have x0 : w1.cell? ⟨w.heap.size, 0, none⟩ = some (.int .u32 (o : Int)) := cell_at (h1.at HX.out) 0
           have x1 : w1.cell? ⟨w.heap.size, 1, none⟩ = some (.int .u32 (lc : Int)) := cell_at (h1.at HX.out) 1
           have HW := Lib.hid (v_wb hT h1 59 (x := 59) rfl (hT.ok 59 rfl) (by have h1 := HL.out.1; have h2 := HL.out.2.2.2.2.2.2.1; have h3 := HL.out.2.2.2.2.2.2.2; (try simp only [List.length_append, List.length_cons, List.length_nil]); omega))
           clear h1 hu1)
        | (go_at_call 242; refine HW.out.mono ?_; rintro e w2 ⟨rfl, h2⟩
           have c10 : w2.cell? ⟨pb, 10, none⟩ = some (.bool true) := h2.c10.trans (congrArg (fun z => some (Value.bool z)) HC.out.2)
           have c0 := h2.c0
           have x0 : w2.cell? ⟨w.heap.size, 0, none⟩ = some (.int .u32 (o : Int)) := cell_at (h2.at HX.out) 0
           have x1 : w2.cell? ⟨w.heap.size, 1, none⟩ = some (.int .u32 (lc : Int)) := cell_at (h2.at HX.out) 1
           have HWs := Lib.hid (v_ws hT h2 s HL.out.2.1 (by have h1 := HL.out.1; have h2 := HL.out.2.2.2.2.2.2.1; have h3 := HL.out.2.2.2.2.2.2.2; (try simp only [List.length_append, List.length_cons, List.length_nil]); omega))
           clear h2)
        | (go_at_call 243; refine HWs.out.mono ?_; rintro e w6 ⟨rfl, h6⟩
           have c13 := h6.c13
           have f13 := h6.fz 13
           have HP := Lib.hid (h6.setc hT (i := 13) (val := .int .u8 1) { v with ws := 1 } (fun _ => rfl) rfl)
           clear h6))
      go_end0
      refine ⟨rfl, HSub.out.back _ _ _ (HP.out.cast ?_ (by simp only [HC.out.1, HC.out.2]))⟩
      simp only [List.append_assoc, List.cons_append, List.nil_append]
    · have e1 : mSr v (lc / 16384) = [] ++ spT v.ws := by simp [mSr, hwn, hsm, hmi]
      rw [e1]
      have HC := Lib.hid (And.intro hsm hmi)
      clear e1 hwn hsm hmi
      go_enter Tryz.func75, Tryz.ntmps75
      go_wp2_with (first
        | (go_at_call 92; refine HWn.out.mono ?_; rintro e w1 ⟨rfl, hu1⟩
           have h1 := HH.out.quiet hT hu1
           have c16 : w1.cell? ⟨pb, 16, none⟩ = some (.bool true) := h1.c16.trans (congrArg (fun z => some (Value.bool z)) HC.out.1)
           have c10 : w1.cell? ⟨pb, 10, none⟩ = some (.bool false) := h1.c10.trans (congrArg (fun z => some (Value.bool z)) HC.out.2)
           have c0 := h1.c0
           have x0 : w1.cell? ⟨w.heap.size, 0, none⟩ = some (.int .u32 (o : Int)) := cell_at (h1.at HX.out) 0
           have x1 : w1.cell? ⟨w.heap.size, 1, none⟩ = some (.int .u32 (lc : Int)) := cell_at (h1.at HX.out) 1
           have HS := Lib.hid (v_spacePad hT h1 o lc (by have h1 := HL.out.1; have h2 := HL.out.2.2.2.2.2.2.1; have h3 := HL.out.2.2.2.2.2.2.2; (try simp only [List.length_append, List.length_cons, List.length_nil]); omega))
           clear h1 hu1)
        | (go_at_call 71; refine HS.out.mono ?_; rintro e w3 ⟨rfl, h3⟩
           have c0 := h3.c0
           have HWs := Lib.hid (v_ws hT h3 s HL.out.2.1 (by have h1 := HL.out.1; have h2 := HL.out.2.2.2.2.2.2.1; have h3 := HL.out.2.2.2.2.2.2.2; (try simp only [List.length_append]); omega))
           clear h3)
        | (go_at_call 243; refine HWs.out.mono ?_; rintro e w6 ⟨rfl, h6⟩
           have c13 := h6.c13
           have f13 := h6.fz 13
           have HP := Lib.hid (h6.setc hT (i := 13) (val := .int .u8 1) { v with ws := 1 } (fun _ => rfl) rfl)
           clear h6))
      go_end0
      refine ⟨rfl, HSub.out.back _ _ _ (HP.out.cast ?_ (by simp only [HC.out.1, HC.out.2]))⟩
      simp only [List.append_assoc]
    · have e1 : mSr v (lc / 16384) = [] ++ [] := by simp [mSr, hwn, hsm, hmi]
      rw [e1]
      have HC := Lib.hid (And.intro hsm hmi)
      clear e1 hwn hsm hmi
      go_enter Tryz.func75, Tryz.ntmps75
      go_wp2_with (first
        | (go_at_call 92; refine HWn.out.mono ?_; rintro e w1 ⟨rfl, hu1⟩
           have h1 := HH.out.quiet hT hu1
           have c16 : w1.cell? ⟨pb, 16, none⟩ = some (.bool true) := h1.c16.trans (congrArg (fun z => some (Value.bool z)) HC.out.1)
           have c10 : w1.cell? ⟨pb, 10, none⟩ = some (.bool true) := h1.c10.trans (congrArg (fun z => some (Value.bool z)) HC.out.2)
           have c0 := h1.c0
           have x0 : w1.cell? ⟨w.heap.size, 0, none⟩ = some (.int .u32 (o : Int)) := cell_at (h1.at HX.out) 0
           have x1 : w1.cell? ⟨w.heap.size, 1, none⟩ = some (.int .u32 (lc : Int)) := cell_at (h1.at HX.out) 1
           have HWs := Lib.hid (v_ws hT h1 s HL.out.2.1 (by have h1 := HL.out.1; have h2 := HL.out.2.2.2.2.2.2.1; have h3 := HL.out.2.2.2.2.2.2.2; (try simp only [List.length_append, List.length_cons, List.length_nil]); omega))
           clear h1 hu1)
        | (go_at_call 243; refine HWs.out.mono ?_; rintro e w6 ⟨rfl, h6⟩
           have c13 := h6.c13
           have f13 := h6.fz 13
           have HP := Lib.hid (h6.setc hT (i := 13) (val := .int .u8 1) { v with ws := 1 } (fun _ => rfl) rfl)
           clear h6))
      go_end0
      refine ⟨rfl, HSub.out.back _ _ _ (HP.out.cast ?_ (by simp only [HC.out.1, HC.out.2]))⟩
      simp only [List.append_nil]
  · rw [hwn] at hWn
    have HWn := Lib.hid hWn
    clear hWn
    have e1 : mSr v (lc / 16384) = mNls v (lc / 16384) := by simp [mSr, hwn]
    have e2 : sSr v (lc / 16384) = { sNls v (lc / 16384) with ws := 1 } := by simp [sSr, hwn]
    rw [e1, e2]
    clear e1 e2 hwn
    go_enter Tryz.func75, Tryz.ntmps75
    go_wp2_with (first
      | (go_at_call 92; refine HWn.out.mono ?_; rintro e w1 ⟨rfl, hu1⟩
         have h1 := HH.out.quiet hT hu1
         have x0 : w1.cell? ⟨w.heap.size, 0, none⟩ = some (.int .u32 (o : Int)) := cell_at (h1.at HX.out) 0
         have x1 : w1.cell? ⟨w.heap.size, 1, none⟩ = some (.int .u32 (lc : Int)) := cell_at (h1.at HX.out) 1
         have HN := Lib.hid (v_newlines hT h1 o lc HLc.out HL.out.2.2.1 HL.out.2.2.2.1 HL.out.2.2.2.2.1 HL.out.2.2.2.2.2.1 (by have := HL.out.1; omega))
         clear h1 hu1)
      | (go_at_call 68; refine HN.out.mono ?_; rintro e w2 ⟨rfl, h2⟩
         have c0 := h2.c0
         have HWs := Lib.hid (v_ws hT h2 s HL.out.2.1 (by have h1 := HL.out.1; have h2 := HL.out.2.2.2.2.2.2.1; have h3 := HL.out.2.2.2.2.2.2.2; (try simp only [List.length_append]); omega))
         clear h2)
      | (go_at_call 243; refine HWs.out.mono ?_; rintro e w6 ⟨rfl, h6⟩
         have c13 := h6.c13
         have f13 := h6.fz 13
         have HP := Lib.hid (h6.setc hT (i := 13) (val := .int .u8 1) { sNls v (lc / 16384) with ws := 1 } (fun _ => rfl) rfl)
         clear h6))
    go_end0
    exact ⟨rfl, HSub.out.back _ _ _ HP.out⟩
end
end Go.Proofs.YtmdkpihlhdjjaaaGreatFmt
