/-
  The Printer in use: spaces, indent, newline, newlines, rightParen, semiOrNewl, semiRsrv.
-/
import Derived.Test.YtmdkpihlhdjjaaaGreatFmtKMf
namespace Go.Proofs.YtmdkpihlhdjjaaaGreatFmt
open Go.RowKit

section
variable {T : Sink} {pb b : Nat} {tv : Value} {B : Base} {w : World} {l : List UInt8} {v : VS}

set_option maxRecDepth 100000 in
set_option maxHeartbeats 1000000 in
theorem v_spaces (hT : TOk T) (h : PX T pb b tv B w l v) (n : Nat) (hl : l.length + n ≤ LIM) :
    Calls Tryz.prog 139 #[.pointer (some ⟨pb, 0, none⟩), .int .u64 (n : Int)] w fun e w' => e = .returned (.tuple #[]) ∧ PX T pb b tv B w' (l ++ List.replicate n 32) v := by
  have hm := bw_meth_wb b
  have ha := bw_ahead_wb b
  have hn : (n : Int) ≤ 1099511627776 := by unfold LIM at hl; omega
  have HX := Lib.hid h
  have HL := Lib.hid hl
  clear h hl
  go_enter Tryz.func139, Tryz.ntmps139
  go_wp2_with fail
  go_loopg [5] n (fun k v5 wr => ∃ j : Nat, v5 = .int .u64 (j : Int) ∧ j + k = n ∧ PX T pb b tv B wr (l ++ List.replicate j 32) v)
  case atStart => exact ⟨0, rfl, by omega, HX.out.cast (by simp) rfl⟩
  case round =>
    obtain ⟨j, rfl, hjk, hX⟩ := hrel
    have HJ := Lib.hid hjk
    have c0 := hX.c0
    by_cases hlt : j < n
    · have hltI : (j : Int) < (n : Int) := by omega
      have HW := Lib.hid (v_wb hT hX 32 (x := 32) rfl (hT.ok 32 rfl) (by have := HL.out; rw [List.length_append, List.length_replicate]; omega))
      clear hX hjk
      go_wp2_with (go_at_call 242; refine HW.out.mono ?_; rintro e w1 ⟨rfl, h1⟩; have H1 := Lib.hid h1; clear h1)
      go_roundg (n - (j + 1))
      case measure => have := HJ.out; omega
      case rel =>
        refine ⟨j + 1, by go_num, by omega, H1.out.cast ?_ rfl⟩
        rw [List.replicate_succ', ← List.append_assoc]
    · obtain rfl : j = n := by omega
      have HX2 := Lib.hid hX
      clear hX hjk
      go_wp2_with fail
      go_end0
      exact ⟨rfl, HX2.out⟩

/-- What indent prints, and leaves. -/
def mIndent (v : VS) : List UInt8 := if v.mi then [] else if v.lv = 0 then [] else if v.k = 0 then [255] ++ List.replicate v.lv 9 ++ [255] else List.replicate (v.k * v.lv) 32
def sIndent (v : VS) : VS := if v.mi then v else { v with ll := v.lv }

set_option maxRecDepth 100000 in
set_option maxHeartbeats 4000000 in
theorem v_indent (hT : TOk T) (h : PX T pb b tv B w l v) (hk : ∀ c ∈ mIndent v, T.okb c = true) (hkl : v.k * v.lv ≤ 4294967296) (hlv : v.lv ≤ 4294967296) (hl : l.length + (mIndent v).length ≤ LIM) :
    Calls Tryz.prog 87 #[.pointer (some ⟨pb, 0, none⟩)] w fun e w' => e = .returned (.tuple #[]) ∧ PX T pb b tv B w' (l ++ mIndent v) (sIndent v) := by
  have hm := bw_meth_wb b
  have ha := bw_ahead_wb b
  have c0 := h.c0
  have c5 := h.c5
  have c10 := h.c10
  have c20 := h.c20
  have c21 := h.c21
  have f20 := h.fz 20
  cases hmi : v.mi
  · rw [hmi] at c10
    have h1 := h.setc hT (i := 20) (val := .int .u64 (v.lv : Int)) { v with ll := v.lv } (fun _ => rfl) rfl
    have hs : sIndent v = { v with ll := v.lv } := by simp [sIndent, hmi]
    by_cases h0 : v.lv = 0
    · have hout : mIndent v = [] := by simp [mIndent, h0]
      have H1 := Lib.hid h1
      have HO := Lib.hid (And.intro hs hout)
      have h0I : (v.lv : Int) = 0 := by omega
      clear h h1 hs hout hk hl
      rw [h0I] at c21
      rw [h0I] at H1
      clear h0 h0I
      go_enter Tryz.func87, Tryz.ntmps87
      go_wp2
      go_end0
      rw [HO.out.2, HO.out.1, List.append_nil]
      exact ⟨rfl, H1.out⟩
    · have h0I : ((v.lv : Int) == 0) = false := by rw [beq_eq_false_iff_ne]; omega
      by_cases hk0 : v.k = 0
      · have hout : mIndent v = [255] ++ List.replicate v.lv 9 ++ [255] := by simp [mIndent, h0, hmi, hk0]
        have hlen : l.length + (v.lv + 2) ≤ LIM := by rw [hout] at hl; simp only [List.length_append, List.length_replicate, List.length_singleton] at hl; omega
        have hk255 : T.okb 255 = true := hk 255 (by rw [hout]; simp)
        have hk9 : T.okb 9 = true := hk 9 (by rw [hout]; simp [h0])
        have HO := Lib.hid (And.intro hs hout)
        have HK := Lib.hid (And.intro hk255 (And.intro hk9 hlen))
        have hlvI : (v.lv : Int) ≤ 4294967296 := by omega
        have hkI : (v.k : Int) = 0 := by omega
        rw [hkI] at c5
        have HW := Lib.hid (v_wb hT h1 255 (x := 255) rfl hk255 (by omega))
        clear h h1 hs hout hk hl hlen hk255 hk9 h0 hk0 hkI
        go_enter Tryz.func87, Tryz.ntmps87
        go_wp2_with (go_at_call 242; refine HW.out.mono ?_; rintro e w1 ⟨rfl, h1⟩; have H1 := Lib.hid h1; clear h1)
        go_loopg [2] v.lv (fun k v2 wr => ∃ j : Nat, v2 = .int .u64 (j : Int) ∧ j + k = v.lv ∧ PX T pb b tv B wr (l ++ [255] ++ List.replicate j 9) { v with ll := v.lv })
        case atStart => exact ⟨0, rfl, by omega, H1.out.cast (by simp) rfl⟩
        case round =>
          obtain ⟨j, rfl, hjk, hX⟩ := hrel
          have d0 := hX.c0
          have d21 : wr.cell? ⟨pb, 21, none⟩ = some (.int .u64 (v.lv : Int)) := hX.c21
          have HJ := Lib.hid hjk
          by_cases hlt : j < v.lv
          · have hltI : (j : Int) < (v.lv : Int) := by omega
            have HW2 := Lib.hid (v_wb hT hX 9 (x := 9) rfl HK.out.2.1 (by have := HK.out.2.2; simp only [List.length_append, List.length_replicate, List.length_singleton]; omega))
            clear hX hjk
            go_wp2_with (go_at_call 242; refine HW2.out.mono ?_; rintro e w2 ⟨rfl, h2⟩; have H2 := Lib.hid h2; clear h2)
            go_roundg (v.lv - (j + 1))
            case measure => have := HJ.out; omega
            case rel =>
              refine ⟨j + 1, by go_num, by omega, H2.out.cast ?_ rfl⟩
              rw [List.replicate_succ']
              simp only [List.append_assoc]
          · have hltI : ¬ (j : Int) < (v.lv : Int) := by omega
            have HW2 := Lib.hid (v_wb hT hX 255 (x := 255) rfl HK.out.1 (by have := HK.out.2.2; simp only [List.length_append, List.length_replicate, List.length_singleton]; omega))
            clear hX hjk
            go_wp2_with (go_at_call 242; refine HW2.out.mono ?_; rintro e w2 ⟨rfl, h2⟩; have H2 := Lib.hid h2; clear h2)
            go_end0
            refine ⟨rfl, H2.out.cast ?_ ?_⟩
            · have : j = v.lv := by have := HJ.out; omega
              rw [HO.out.2, this]
              simp only [List.append_assoc]
            · rw [HO.out.1]
      · have hkI : ((v.k : Int) == 0) = false := by rw [beq_eq_false_iff_ne]; omega
        have hout : mIndent v = List.replicate (v.k * v.lv) 32 := by simp [mIndent, h0, hmi, hk0]
        obtain ⟨n, hn⟩ : ∃ n, n = v.k * v.lv := ⟨_, rfl⟩
        have hmul : IntKind.u64.wrap ((v.k : Int) * (v.lv : Int)) = (n : Int) := by
          rw [hn, IntKind.wrap_u64, Int.natCast_mul]
          have h1 : (v.k : Int) * (v.lv : Int) ≤ 4294967296 := by rw [← Int.natCast_mul]; omega
          have h2 : 0 ≤ (v.k : Int) * (v.lv : Int) := by rw [← Int.natCast_mul]; omega
          omega
        have HS := Lib.hid (fun W (hW : Upd (fun _ => False) _ W) => v_spaces hT (h1.quiet hT hW) n (by rw [hn]; rw [hout, List.length_replicate] at hl; exact hl))
        have HO := Lib.hid (And.intro hs (And.intro hout hn))
        clear h h1 hs hout hk hl hkl h0 hk0 hn hlv
        go_enter Tryz.func87, Tryz.ntmps87
        go_wp2_with fail
        go_region_held3 (fun w' => w'.cell? ⟨pb, 5, none⟩ = some (.int .u64 (v.k : Int)) ∧ w'.cell? ⟨pb, 21, none⟩ = some (.int .u64 (v.lv : Int))) (first | (refine ⟨?_, ?_⟩ <;> simp [go_sem, *]; done) | exact ⟨k1, k2⟩ | simp [go_sem, *])
          (first
            | (go_at_call 139; refine (HS.out _ (Upd.refl _ _).drew).mono ?_; rintro e w1 ⟨rfl, h1⟩
               have k1 : w1.cell? ⟨pb, 5, none⟩ = some (.int .u64 (v.k : Int)) := h1.c5
               have k2 : w1.cell? ⟨pb, 21, none⟩ = some (.int .u64 (v.lv : Int)) := h1.c21
               have H1 := Lib.hid h1; clear h1))
        go_wp2_with fail
        go_end0
        refine ⟨rfl, H1.out.cast ?_ ?_⟩
        · rw [HO.out.2.1, HO.out.2.2]
        · rw [HO.out.1]
  · rw [hmi] at c10
    have hout : mIndent v = [] := by simp [mIndent, hmi]
    have hs : sIndent v = v := by simp [sIndent, hmi]
    rw [hout, hs, List.append_nil]
    have HX := Lib.hid h
    clear h hout hs hk hl
    go_enter Tryz.func87, Tryz.ntmps87
    go_wp2
    refine bodyPost_ret (v := .tuple #[]) (results_none rfl _ _ _) rfl ?_
    exact ⟨rfl, HX.out⟩

/-- The state behind a newline. -/
def sNl (v : VS) (L : Nat) : VS := { v with ws := 2, wn := false, mn := false, ln := max v.ln L }

set_option maxRecDepth 100000 in
set_option maxHeartbeats 2000000 in
theorem v_newline (hT : TOk T) (h : PX T pb b tv B w l v) (o lc : Nat) (hlc : lc < 4294967296) (hl : l.length + 1 ≤ LIM) :
    Calls Tryz.prog 38 #[.pointer (some ⟨pb, 0, none⟩), posV o lc] w fun e w' => e = .returned (.tuple #[]) ∧ PX T pb b tv B w' (l ++ [10]) (sNl v (lc / 16384)) := by
  have hm := bw_meth_wb b
  have ha := bw_ahead_wb b
  obtain ⟨B', h', hsub, hnew⟩ := h.base hT (w' := w.alloc (.cells #[.int .u32 (o : Int), .int .u32 (lc : Int)] 40)) ((Upd.refl _ w).alloc _)
  have hx := hnew w.heap.size _ (Nat.le_refl _) (heap_alloc_new w _)
  have hne : ¬ w.heap.size = pb := hx.2.1
  have hne' : ¬ pb = w.heap.size := fun e => hne e.symm
  have HX := Lib.hid hx
  have HSub := Lib.hid hsub
  have HLc := Lib.hid hlc
  have HL := Lib.hid hl
  have HFh := Lib.hid (v_fh h')
  have HFc := Lib.hid (v_fc hT h')
  clear h h' hsub hnew hx hlc hl
  go_enter Tryz.func38, Tryz.ntmps38
  go_wp2_with (first
    | (go_at_call 46; refine HFh.out.mono ?_; rintro e w1 ⟨rfl, rfl⟩)
    | (go_at_call 47; refine HFc.out.mono ?_; rintro e w1 ⟨rfl, h1⟩
       have c0 := h1.c0
       have HW := Lib.hid (v_wb hT h1 10 (x := 10) rfl (hT.ok 10 rfl) (by have := HL.out; omega))
       clear h1)
    | (go_at_call 242; refine HW.out.mono ?_; rintro e w2 ⟨rfl, h2⟩
       have c13 := h2.c13
       have c14 := h2.c14
       have c15 := h2.c15
       have f13 := h2.fz 13
       have f14 := h2.fz 14
       have f15 := h2.fz 15
       have x0 : w2.cell? ⟨w.heap.size, 0, none⟩ = some (.int .u32 (o : Int)) := cell_at (h2.at HX.out) 0
       have x1 : w2.cell? ⟨w.heap.size, 1, none⟩ = some (.int .u32 (lc : Int)) := cell_at (h2.at HX.out) 1
       have HP := Lib.hid (((h2.setc hT (i := 13) (val := .int .u8 2) { v with ws := 2 } (fun _ => rfl) rfl).setc hT (i := 14) (val := .bool false) { v with ws := 2, wn := false } (fun _ => rfl) rfl).setc hT (i := 15) (val := .bool false) { v with ws := 2, wn := false, mn := false } (fun _ => rfl) rfl)
       clear h2)
    | (go_at_call 41; refine (pos_line _ _ HLc.out _).mono ?_; rintro e w3 ⟨rfl, hu3⟩; have HU3 := Lib.hid hu3; clear hu3)
    | (go_at_call 69; refine (v_advance hT (HP.out.quiet hT HU3.out) _).mono ?_; rintro e w4 ⟨rfl, h4⟩; have H4 := Lib.hid h4; clear h4))
  go_end0
  exact ⟨rfl, HSub.out.back _ _ _ H4.out⟩

/-- What newlines prints ahead of a node on line L, and leaves. -/
def mNls (v : VS) (L : Nat) : List UInt8 :=
  if v.fl then [] else if wantsN v L false then [10] ++ (if v.ln + 1 < L ∧ v.mi = false then [10] else []) ++ mIndent v else []
def sNls (v : VS) (L : Nat) : VS := if v.fl then { v with fl := false } else if wantsN v L false then sIndent (sNl v L) else v

set_option maxRecDepth 100000 in
set_option maxHeartbeats 4000000 in
theorem v_newlinesW (hT : TOk T) (h : PX T pb b tv B w l v) (o lc : Nat) (hlc : lc < 4294967296) (hk : v.fl = false → wantsN v (lc / 16384) false = true → ∀ c ∈ mIndent v, T.okb c = true) (hkl : v.k * v.lv ≤ 4294967296) (hlv : v.lv ≤ 4294967296) (hln : v.ln ≤ 4294967296) (hl : l.length + (mIndent v).length + 2 ≤ LIM) :
    Calls Tryz.prog 68 #[.pointer (some ⟨pb, 0, none⟩), posV o lc] w fun e w' => e = .returned (.tuple #[]) ∧ PX T pb b tv B w' (l ++ mNls v (lc / 16384)) (sNls v (lc / 16384)) := by
  have hm := bw_meth_wb b
  have ha := bw_ahead_wb b
  obtain ⟨B', h', hsub, hnew⟩ := h.base hT (w' := w.alloc (.cells #[.int .u32 (o : Int), .int .u32 (lc : Int)] 40)) ((Upd.refl _ w).alloc _)
  have hx := hnew w.heap.size _ (Nat.le_refl _) (heap_alloc_new w _)
  have hne : ¬ w.heap.size = pb := hx.2.1
  have hne' : ¬ pb = w.heap.size := fun e => hne e.symm
  have hlt := h.lt
  have c18 := h.c18
  have f18 := h.fz 18
  obtain ⟨pca, pcc, c17⟩ := h.c17
  have HX := Lib.hid hx
  have HSub := Lib.hid hsub
  have HLc := Lib.hid hlc
  cases hfl : v.fl
  · rw [hfl] at c18
    have HWn := Lib.hid (v_wants h' o lc hlc false)
    cases hwn : wantsN v (lc / 16384) false
    · rw [hwn] at HWn
      have e1 : mNls v (lc / 16384) = [] := by simp [mNls, hwn]
      have e2 : sNls v (lc / 16384) = v := by simp [sNls, hfl, hwn]
      rw [e1, e2, List.append_nil]
      have H' := Lib.hid h'
      clear h h' hsub hnew hx hlc hk hl e1 e2 hfl hwn
      go_enter Tryz.func68, Tryz.ntmps68
      go_wp2_with (go_at_call 92; refine HWn.out.mono ?_; rintro e w1 ⟨rfl, hu1⟩; have HU1 := Lib.hid hu1; clear hu1)
      refine bodyPost_ret (v := .tuple #[]) (results_none rfl _ _ _) rfl ?_
      exact ⟨rfl, HSub.out.back _ _ _ (H'.out.quiet hT HU1.out)⟩
    · rw [hwn] at HWn
      have e1 : mNls v (lc / 16384) = [10] ++ (if v.ln + 1 < lc / 16384 ∧ v.mi = false then [10] else []) ++ mIndent v := by simp [mNls, hfl, hwn]
      have e2 : sNls v (lc / 16384) = sIndent (sNl v (lc / 16384)) := by simp [sNls, hfl, hwn]
      rw [e1, e2]
      have hmi1 : mIndent (sNl v (lc / 16384)) = mIndent v := rfl
      have HK := Lib.hid (And.intro (hk hfl hwn) (And.intro hkl (And.intro hlv hl)))
      have hlnI : (v.ln : Int) ≤ 4294967296 := by omega
      have hwl : IntKind.u64.wrap ((v.ln : Int) + 1) = (v.ln : Int) + 1 := by rw [IntKind.wrap_u64]; omega
      have HFx := Lib.hid h'
      have hcase : (v.ln + 1 < lc / 16384 ∧ v.mi = false) ∨ (v.ln + 1 < lc / 16384 ∧ v.mi = true) ∨ ¬ v.ln + 1 < lc / 16384 := by
        cases v.mi <;> simp <;> omega
      have HMi := Lib.hid hmi1
      clear h h' hsub hnew hx hlc hk hkl hlv hl e1 e2 hfl hwn hmi1 hln
      rcases hcase with ⟨hc, hmi⟩ | ⟨hc, hmi⟩ | hc
      · have hcI : (v.ln : Int) + 1 < ((lc / 16384 : Nat) : Int) := by omega
        have hcI2 : (v.ln : Int) + 1 < (lc : Int) / 16384 := by omega
        have HC := Lib.hid (And.intro hc hmi)
        rw [if_pos (And.intro hc hmi)]
        clear hc hmi
        go_enter Tryz.func68, Tryz.ntmps68
        go_wp2_with (first
          | (go_at_call 92; refine HWn.out.mono ?_; rintro e w1 ⟨rfl, hu1⟩
             have h1 := HFx.out.quiet hT hu1
             have HFh := Lib.hid (v_fh h1)
             have HFc := Lib.hid (v_fc hT h1)
             clear h1 hu1)
          | (go_at_call 46; refine HFh.out.mono ?_; rintro e w1 ⟨rfl, rfl⟩)
          | (go_at_call 47; refine HFc.out.mono ?_; rintro e w2 ⟨rfl, h2⟩
             have c0 := h2.c0
             have HW := Lib.hid (v_wb hT h2 10 (x := 10) rfl (hT.ok 10 rfl) (by have := HK.out.2.2.2; omega))
             clear h2)
          | (go_at_call 41; refine (pos_line _ _ HLc.out _).mono ?_; rintro e w4 ⟨rfl, hu4⟩
             have h4 := HP.out.quiet hT hu4
             have e19 : w4.cell? ⟨pb, 19, none⟩ = some (.int .u64 (v.ln : Int)) := h4.c19
             have e10 : w4.cell? ⟨pb, 10, none⟩ = some (.bool false) := h4.c10.trans (congrArg (fun z => some (Value.bool z)) HC.out.2)
             have e0 := h4.c0
             have HW2 := Lib.hid (v_wb hT h4 10 (x := 10) rfl (hT.ok 10 rfl) (by have := HK.out.2.2.2; rw [List.length_append, List.length_singleton]; omega))
             clear h4 hu4)
          | (go_at_call 69; refine (v_advance hT H5.out _).mono ?_; rintro e w6 ⟨rfl, h6⟩
             have HI := Lib.hid (v_indent hT h6 (fun c hc => HK.out.1 c (HMi.out ▸ hc)) HK.out.2.1 HK.out.2.2.1 (by
               have h1 := HK.out.2.2.2
               have h2 := HMi.out
               have h3 : mIndent ({ v with ws := 2, wn := false, mn := false, ln := max v.ln (lc / 16384) } : VS) = mIndent v := HMi.out
               rw [h3]
               simp only [List.length_append, List.length_singleton]
               omega))
             clear h6)
          | (go_at_call 87; refine HI.out.mono ?_; rintro e w7 ⟨rfl, h7⟩; have H7 := Lib.hid h7; clear h7)
          | (go_at_call 242; refine HW2.out.mono ?_; rintro e w5 ⟨rfl, h5⟩; have H5 := Lib.hid h5; clear h5)
          | (go_at_call 242; refine HW.out.mono ?_; rintro e w3 ⟨rfl, h3⟩
             have c13 := h3.c13
             have c14 := h3.c14
             have c15 := h3.c15
             have f13 := h3.fz 13
             have f14 := h3.fz 14
             have f15 := h3.fz 15
             have x0 : w3.cell? ⟨w.heap.size, 0, none⟩ = some (.int .u32 (o : Int)) := cell_at (h3.at HX.out) 0
             have x1 : w3.cell? ⟨w.heap.size, 1, none⟩ = some (.int .u32 (lc : Int)) := cell_at (h3.at HX.out) 1
             have HP := Lib.hid (((h3.setc hT (i := 13) (val := .int .u8 2) { v with ws := 2 } (fun _ => rfl) rfl).setc hT (i := 14) (val := .bool false) { v with ws := 2, wn := false } (fun _ => rfl) rfl).setc hT (i := 15) (val := .bool false) { v with ws := 2, wn := false, mn := false } (fun _ => rfl) rfl)
             clear h3))
        go_end0
        refine ⟨rfl, HSub.out.back _ _ _ (H7.out.cast ?_ rfl)⟩
        show l ++ [10] ++ [10] ++ mIndent v = _
        simp only [List.append_assoc, List.cons_append, List.nil_append]
      · have hcI : (v.ln : Int) + 1 < ((lc / 16384 : Nat) : Int) := by omega
        have hcI2 : (v.ln : Int) + 1 < (lc : Int) / 16384 := by omega
        have HC := Lib.hid (And.intro hc hmi)
        rw [if_neg (fun h => by rw [hmi] at h; exact Bool.noConfusion h.2)]
        clear hc hmi
        go_enter Tryz.func68, Tryz.ntmps68
        go_wp2_with (first
          | (go_at_call 92; refine HWn.out.mono ?_; rintro e w1 ⟨rfl, hu1⟩
             have h1 := HFx.out.quiet hT hu1
             have HFh := Lib.hid (v_fh h1)
             have HFc := Lib.hid (v_fc hT h1)
             clear h1 hu1)
          | (go_at_call 46; refine HFh.out.mono ?_; rintro e w1 ⟨rfl, rfl⟩)
          | (go_at_call 47; refine HFc.out.mono ?_; rintro e w2 ⟨rfl, h2⟩
             have c0 := h2.c0
             have HW := Lib.hid (v_wb hT h2 10 (x := 10) rfl (hT.ok 10 rfl) (by have := HK.out.2.2.2; omega))
             clear h2)
          | (go_at_call 41; refine (pos_line _ _ HLc.out _).mono ?_; rintro e w4 ⟨rfl, hu4⟩
             have h4 := HP.out.quiet hT hu4
             have e19 : w4.cell? ⟨pb, 19, none⟩ = some (.int .u64 (v.ln : Int)) := h4.c19
             have e10 : w4.cell? ⟨pb, 10, none⟩ = some (.bool true) := h4.c10.trans (congrArg (fun z => some (Value.bool z)) HC.out.2)
             have H5 := Lib.hid h4
             clear h4 hu4)
          | (go_at_call 69; refine (v_advance hT H5.out _).mono ?_; rintro e w6 ⟨rfl, h6⟩
             have HI := Lib.hid (v_indent hT h6 (fun c hc => HK.out.1 c (HMi.out ▸ hc)) HK.out.2.1 HK.out.2.2.1 (by
               have h1 := HK.out.2.2.2
               have h2 := HMi.out
               have h3 : mIndent ({ v with ws := 2, wn := false, mn := false, ln := max v.ln (lc / 16384) } : VS) = mIndent v := HMi.out
               rw [h3]
               simp only [List.length_append, List.length_singleton]
               omega))
             clear h6)
          | (go_at_call 87; refine HI.out.mono ?_; rintro e w7 ⟨rfl, h7⟩; have H7 := Lib.hid h7; clear h7)
          | (go_at_call 242; refine HW.out.mono ?_; rintro e w3 ⟨rfl, h3⟩
             have c13 := h3.c13
             have c14 := h3.c14
             have c15 := h3.c15
             have f13 := h3.fz 13
             have f14 := h3.fz 14
             have f15 := h3.fz 15
             have x0 : w3.cell? ⟨w.heap.size, 0, none⟩ = some (.int .u32 (o : Int)) := cell_at (h3.at HX.out) 0
             have x1 : w3.cell? ⟨w.heap.size, 1, none⟩ = some (.int .u32 (lc : Int)) := cell_at (h3.at HX.out) 1
             have HP := Lib.hid (((h3.setc hT (i := 13) (val := .int .u8 2) { v with ws := 2 } (fun _ => rfl) rfl).setc hT (i := 14) (val := .bool false) { v with ws := 2, wn := false } (fun _ => rfl) rfl).setc hT (i := 15) (val := .bool false) { v with ws := 2, wn := false, mn := false } (fun _ => rfl) rfl)
             clear h3))
        go_end0
        refine ⟨rfl, HSub.out.back _ _ _ (H7.out.cast ?_ rfl)⟩
        show l ++ [10] ++ mIndent v = _
        simp only [List.append_assoc, List.cons_append, List.nil_append]
      · have hcI : ¬ (v.ln : Int) + 1 < ((lc / 16384 : Nat) : Int) := by omega
        have hcI2 : ¬ (v.ln : Int) + 1 < (lc : Int) / 16384 := by omega
        have HC := Lib.hid hc
        rw [if_neg (fun h => hc h.1)]
        clear hc
        go_enter Tryz.func68, Tryz.ntmps68
        go_wp2_with (first
          | (go_at_call 92; refine HWn.out.mono ?_; rintro e w1 ⟨rfl, hu1⟩
             have h1 := HFx.out.quiet hT hu1
             have HFh := Lib.hid (v_fh h1)
             have HFc := Lib.hid (v_fc hT h1)
             clear h1 hu1)
          | (go_at_call 46; refine HFh.out.mono ?_; rintro e w1 ⟨rfl, rfl⟩)
          | (go_at_call 47; refine HFc.out.mono ?_; rintro e w2 ⟨rfl, h2⟩
             have c0 := h2.c0
             have HW := Lib.hid (v_wb hT h2 10 (x := 10) rfl (hT.ok 10 rfl) (by have := HK.out.2.2.2; omega))
             clear h2)
          | (go_at_call 41; refine (pos_line _ _ HLc.out _).mono ?_; rintro e w4 ⟨rfl, hu4⟩
             have h4 := HP.out.quiet hT hu4
             have e19 : w4.cell? ⟨pb, 19, none⟩ = some (.int .u64 (v.ln : Int)) := h4.c19
             have H5 := Lib.hid h4
             clear h4 hu4)
          | (go_at_call 69; refine (v_advance hT H5.out _).mono ?_; rintro e w6 ⟨rfl, h6⟩
             have HI := Lib.hid (v_indent hT h6 (fun c hc => HK.out.1 c (HMi.out ▸ hc)) HK.out.2.1 HK.out.2.2.1 (by
               have h1 := HK.out.2.2.2
               have h2 := HMi.out
               have h3 : mIndent ({ v with ws := 2, wn := false, mn := false, ln := max v.ln (lc / 16384) } : VS) = mIndent v := HMi.out
               rw [h3]
               simp only [List.length_append, List.length_singleton]
               omega))
             clear h6)
          | (go_at_call 87; refine HI.out.mono ?_; rintro e w7 ⟨rfl, h7⟩; have H7 := Lib.hid h7; clear h7)
          | (go_at_call 242; refine HW.out.mono ?_; rintro e w3 ⟨rfl, h3⟩
             have c13 := h3.c13
             have c14 := h3.c14
             have c15 := h3.c15
             have f13 := h3.fz 13
             have f14 := h3.fz 14
             have f15 := h3.fz 15
             have x0 : w3.cell? ⟨w.heap.size, 0, none⟩ = some (.int .u32 (o : Int)) := cell_at (h3.at HX.out) 0
             have x1 : w3.cell? ⟨w.heap.size, 1, none⟩ = some (.int .u32 (lc : Int)) := cell_at (h3.at HX.out) 1
             have HP := Lib.hid (((h3.setc hT (i := 13) (val := .int .u8 2) { v with ws := 2 } (fun _ => rfl) rfl).setc hT (i := 14) (val := .bool false) { v with ws := 2, wn := false } (fun _ => rfl) rfl).setc hT (i := 15) (val := .bool false) { v with ws := 2, wn := false, mn := false } (fun _ => rfl) rfl)
             clear h3))
        go_end0
        refine ⟨rfl, HSub.out.back _ _ _ (H7.out.cast ?_ rfl)⟩
        show l ++ [10] ++ mIndent v = _
        simp only [List.append_assoc, List.cons_append, List.nil_append]
  · rw [hfl] at c18
    have e1 : mNls v (lc / 16384) = [] := by simp [mNls, hfl]
    have e2 : sNls v (lc / 16384) = { v with fl := false } := by simp [sNls, hfl]
    rw [e1, e2, List.append_nil]
    have H0 := Lib.hid h
    clear h h' hsub hnew hx hlc hk hl e1 e2 hfl
    go_enter Tryz.func68, Tryz.ntmps68
    go_wp2_with fail
    refine bodyPost_ret (v := .tuple #[]) (results_none rfl _ _ _) rfl ?_
    exact ⟨rfl, (H0.out.setc hT (i := 18) (val := .bool false) { v with fl := false } (fun _ => rfl) rfl).quiet hT ((Upd.refl _ _).alloc _)⟩
theorem v_newlines (hT : TOk T) (h : PX T pb b tv B w l v) (o lc : Nat) (hlc : lc < 4294967296) (hk : ∀ c ∈ mIndent v, T.okb c = true) (hkl : v.k * v.lv ≤ 4294967296) (hlv : v.lv ≤ 4294967296) (hln : v.ln ≤ 4294967296) (hl : l.length + (mIndent v).length + 2 ≤ LIM) :
    Calls Tryz.prog 68 #[.pointer (some ⟨pb, 0, none⟩), posV o lc] w fun e w' => e = .returned (.tuple #[]) ∧ PX T pb b tv B w' (l ++ mNls v (lc / 16384)) (sNls v (lc / 16384)) :=
  v_newlinesW hT h o lc hlc (fun _ _ => hk) hkl hlv hln hl
end
end Go.Proofs.YtmdkpihlhdjjaaaGreatFmt
