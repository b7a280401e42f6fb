/-
  The Printer in use: quoted word parts: literals on lines, a single-quoted part, a double-quoted part.
-/
import Derived.Test.YtnhmgjgdkcgmfaaGreatFmtMf
namespace Go.Proofs.YtnhmgjgdkcgmfaaGreatFmt
open Go.RowKit

/-! The texts. -/
/-- Escaped newlines. -/
def nls : Nat → List UInt8
  | 0 => []
  | n + 1 => nls n ++ [92, 10]
theorem nls_len (n : Nat) : (nls n).length = 2 * n := by
  induction n with
  | zero => rfl
  | succ n ih => simp only [nls, List.length_append, List.length_cons, List.length_nil, ih]; omega
theorem nls_add (m n : Nat) : nls (m + n) = nls m ++ nls n := by
  induction n with
  | zero => simp [nls]
  | succ n ih => rw [show m + (n + 1) = (m + n) + 1 by omega]; simp only [nls, ih, List.append_assoc]

def LitP.ln (p : LitP) : Nat := p.l1 / 16384

/-- The text of quoted literals, the printer standing on line ln. -/
def qText : Nat → List LitP → List UInt8
  | _, [] => []
  | ln, p :: r => nls (p.ln - ln) ++ litText p.v.data.toList ++ qText (max ln p.ln) r
def qLn : Nat → List LitP → Nat
  | ln, [] => ln
  | ln, p :: r => qLn (max ln p.ln) r
theorem qText_append (ln : Nat) (xs ys : List LitP) : qText ln (xs ++ ys) = qText ln xs ++ qText (qLn ln xs) ys := by
  induction xs generalizing ln with
  | nil => rfl
  | cons p r ih => simp only [List.cons_append, qText, qLn, ih, List.append_assoc]
theorem qLn_append (ln : Nat) (xs ys : List LitP) : qLn ln (xs ++ ys) = qLn (qLn ln xs) ys := by
  induction xs generalizing ln with
  | nil => rfl
  | cons p r ih => simp only [List.cons_append, qLn, ih]
theorem qLn_ge (ln : Nat) (ps : List LitP) : ln ≤ qLn ln ps := by
  induction ps generalizing ln with
  | nil => exact Nat.le_refl _
  | cons p r ih => exact Nat.le_trans (Nat.le_max_left _ _) (ih _)
theorem qLn_le {M : Nat} (ps : List LitP) (hM : ∀ p ∈ ps, p.ln ≤ M) {ln : Nat} (h : ln ≤ M) : qLn ln ps ≤ M := by
  induction ps generalizing ln with
  | nil => exact h
  | cons p r ih => exact ih (fun q hq => hM q (List.mem_cons_of_mem _ hq)) (Nat.max_le.2 ⟨h, hM p (by simp)⟩)
theorem qText_len (ln : Nat) (ps : List LitP) : (qText ln ps).length ≤ 2 * (qLn ln ps - ln) + partsSize ps := by
  induction ps generalizing ln with
  | nil => simp [qText]
  | cons p r ih =>
    have h1 := ih (max ln p.ln)
    have h2 := litText_len p.v
    have h3 := qLn_ge (max ln p.ln) r
    have h4 : max ln p.ln - ln = p.ln - ln := by omega
    simp only [qText, qLn, List.length_append, nls_len, partsSize, List.map_cons, List.sum_cons] at h1 ⊢
    omega
theorem qText_take (ln : Nat) (ps : List LitP) (j : Nat) (hj : j < ps.length) : qText ln (ps.take (j + 1)) = qText ln (ps.take j) ++ (nls (ps[j].ln - qLn ln (ps.take j)) ++ litText ps[j].v.data.toList) := by
  rw [List.take_succ_eq_append_getElem hj, qText_append]
  simp only [qText, List.append_nil]
theorem qLn_take (ln : Nat) (ps : List LitP) (j : Nat) (hj : j < ps.length) : qLn ln (ps.take (j + 1)) = max (qLn ln (ps.take j)) ps[j].ln := by
  rw [List.take_succ_eq_append_getElem hj, qLn_append]
  simp only [qLn]
theorem partsSize_take (ps : List LitP) (j : Nat) : partsSize (ps.take j) ≤ partsSize ps := by
  calc partsSize (ps.take j) ≤ partsSize (ps.take j) + partsSize (ps.drop j) := Nat.le_add_right _ _
    _ = partsSize (ps.take j ++ ps.drop j) := by simp only [partsSize, List.map_append, List.sum_append]
    _ = partsSize ps := by rw [List.take_append_drop]

section
variable {T : Sink} {pb b : Nat} {tv : Value} {B : Base} {w : World} {l : List UInt8} {v : VS}

theorem v_wordPart_lit (hT : TOk T) (h : PX T pb b tv B w l v) {p : LitP} (hA : B.At pb p.lb (litO p)) (nx : Value) (hv : ∀ x ∈ p.v.data.toList, T.okb x = true ∧ x ≠ 9) (hl : l.length + p.v.size + 1 ≤ LIM) :
    Calls Tryz.prog 37 #[.pointer (some ⟨pb, 0, none⟩), .iface 63 (.pointer (some ⟨p.lb, 0, none⟩)), nx] w fun e w' => e = .returned (.tuple #[]) ∧ PX T pb b tv B w' (l ++ litText p.v.data.toList) v := by
  obtain ⟨F, h, y⟩ := h
  obtain ⟨h1, h2, h3⟩ := y.at hA
  refine (p_wordPart_lit hT.law hT.wstr (hT.ok 92 rfl) y.pw (lb := p.lb) (o1 := p.o1) (l1 := p.l1) (o2 := p.o2) (l2 := p.l2) (v := p.v) h1 h2 h3 nx (fun x hx => (hv x hx).1) (fun x hx => (hv x hx).2) hl).mono ?_
  rintro e w' ⟨rfl, hr⟩
  exact ⟨rfl, y.pwr hr rfl⟩

/-- A row of literals. -/
def PartsX (A : Nat → Obj → Prop) (rb : Nat) (ps : List LitP) : Prop :=
  A rb (.cells (ps.map litIf).toArray 66 (0, 0)) ∧ ∀ p ∈ ps, A p.lb (litO p) ∧ p.l1 < 4294967296 ∧ p.l2 = p.l1

set_option maxRecDepth 100000 in
set_option maxHeartbeats 8000000 in
theorem v_wordPartsQ (hT : TOk T) (h : PX T pb b tv B w l v) {rb c M : Nat} {ps : List LitP} (hP : PartsX (B.At pb) rb ps) (hsi : v.si = false) (hv : ∀ p ∈ ps, ∀ x ∈ p.v.data.toList, T.okb x = true ∧ x ≠ 9)
    (hM : ∀ p ∈ ps, p.ln ≤ M) (hm0 : v.ln ≤ M) (hMb : M ≤ 4294967296) (hl : l.length + 2 * M + partsSize ps + 2 ≤ LIM) :
    Calls Tryz.prog 87 #[.pointer (some ⟨pb, 0, none⟩), .slice (some ⟨rb, 0, none⟩) ps.length c, .bool true] w fun e w' => e = .returned (.tuple #[]) ∧ PX T pb b tv B w' (l ++ qText v.ln ps) { v with ln := qLn v.ln ps } := by
  obtain ⟨n, hn⟩ : ∃ n, n = ps.length := ⟨_, rfl⟩
  have hlp := partsSize_length ps
  have hnI : (n : Int) ≤ 1099511627776 := by unfold LIM at hl; omega
  rw [← hn]
  have HC := Lib.hid (And.intro hP (And.intro hsi (And.intro hv (And.intro hM (And.intro hm0 (And.intro hl hMb))))))
  have HN := Lib.hid hn
  have HX := Lib.hid h
  have hmw := bw_meth_ws b
  have haw := bw_ahead_ws b
  clear h hP hsi hv hM hm0 hl hlp hn hMb
  go_enter Tryz.func87, Tryz.ntmps87
  go_wp2_with fail
  go_region
  go_wp2_with fail
  go_loopg [34] n (fun k v34 wr => ∃ j : Nat, v34 = .int .i64 (j : Int) ∧ j + k = n ∧ PX T pb b tv B wr (l ++ qText v.ln (ps.take j)) { v with ln := qLn v.ln (ps.take j) })
  case atStart => exact ⟨0, rfl, by omega, (HX.out.quiet hT (Upd.refl (fun _ => False) w).drew).cast (by simp [qText]) rfl⟩
  case round =>
    obtain ⟨j, rfl, hjk, hI⟩ := hrel
    have HJ := Lib.hid hjk
    have HI := Lib.hid hI
    clear hjk
    by_cases hlt : j < n
    · have hltI : (j : Int) < (n : Int) := by omega
      have hj : j < ps.length := by rw [← HN.out]; exact hlt
      obtain ⟨q, hq⟩ : ∃ q, q = ps[j]'hj := ⟨_, rfl⟩
      obtain ⟨ln0, hln0⟩ : ∃ ln0, ln0 = qLn v.ln (ps.take j) := ⟨_, rfl⟩
      have hqm : q ∈ ps := by rw [hq]; exact List.getElem_mem hj
      obtain ⟨hrow, hall⟩ := HC.out.1
      obtain ⟨hA, hl1, hl2⟩ := hall q hqm
      have crj : wr.cell? ⟨rb, j, none⟩ = some (.iface 63 (.pointer (some ⟨q.lb, 0, none⟩))) := by
        rw [cell_at (hI.at hrow) j]; simp [litIf, hj, hq]
      have hnext : (∃ u, wr.cell? ⟨rb, j + 1, none⟩ = some u ∧ (j : Int) + 1 < (n : Int)) ∨ ¬ (j : Int) + 1 < (n : Int) := by
        by_cases h1 : j + 1 < n
        · have h2 : j + 1 < ps.length := by rw [← HN.out]; exact h1
          refine .inl ⟨litIf (ps[j + 1]'h2), ?_, by omega⟩
          rw [cell_at (hI.at hrow) (j + 1)]; simp [h2]
        · exact .inr (by omega)
      have hmp := lit_meth_pos q.lb
      have hap := lit_ahead_pos q.lb
      have hme := lit_meth_end q.lb
      have hae := lit_ahead_end q.lb
      have hlen : (l ++ qText v.ln (ps.take j)).length + 2 * (M - ln0) + (q.v.size + 1) + 2 ≤ LIM := by
        have h1 := qText_len v.ln (ps.take j)
        have h2 := partsSize_split ps j hj
        rw [← hq] at h2
        have h3 := HC.out.2.2.2.2.2.1
        have h4 := qLn_le (ps.take j) (fun p hp => HC.out.2.2.2.1 p (List.mem_of_mem_take hp)) HC.out.2.2.2.2.1
        rw [← hln0] at h1 h4
        have h5 := qLn_ge v.ln (ps.take j)
        rw [← hln0] at h5
        rw [List.length_append]
        omega
      have hln0M : ln0 ≤ M := by rw [hln0]; exact qLn_le (ps.take j) (fun p hp => HC.out.2.2.2.1 p (List.mem_of_mem_take hp)) HC.out.2.2.2.2.1
      have hqM : q.ln ≤ M := HC.out.2.2.2.1 q hqm
      have hMb := HC.out.2.2.2.2.2.2
      have HK := Lib.hid (And.intro hlen (And.intro hln0M (And.intro hqM hMb)))
      have HQ := Lib.hid (And.intro hq (And.intro hln0 (And.intro hqm hl2)))
      have HA := Lib.hid hA
      have HL1 := Lib.hid hl1
      have hrel0 : PX T pb b tv B wr (l ++ qText v.ln (ps.take j)) { v with ln := ln0 } := hI.cast rfl (by rw [hln0])
      have HR0 := Lib.hid hrel0
      have HVq := Lib.hid (HC.out.2.2.1 q hqm)
      have HSi := Lib.hid HC.out.2.1
      have hqln : q.ln = q.l1 / 16384 := rfl
      have hqb : q.l1 / 16384 ≤ 262143 := by omega
      have HLn := Lib.hid hqln
      have hqbI : ((q.l1 / 16384 : Nat) : Int) ≤ 4294967296 := by omega
      clear hI hrow hall hA hl1 hl2 hq hln0 hqm hlen hln0M hqM hMb hrel0 hqln hqb
      rcases hnext with ⟨u, crn, hn1I⟩ | hn1I
      all_goals
        go_wp2_with fail
        go_loopg [] (q.l1 / 16384 - ln0) (fun k wx => ∃ m : Nat, ln0 ≤ m ∧ (m ≤ q.l1 / 16384 ∨ m = ln0) ∧ k = q.l1 / 16384 - m ∧ PX T pb b tv B wx (l ++ qText v.ln (ps.take j) ++ nls (m - ln0)) { v with ln := m })
        case atStart => exact ⟨ln0, Nat.le_refl _, .inr rfl, rfl, HR0.out.cast (by rw [Nat.sub_self]; simp [nls]) rfl⟩
        case round =>
          obtain ⟨m, hm0, hm1, rfl, hX⟩ := hrel
          have c11 : wr.cell? ⟨pb, 11, none⟩ = some (.bool false) := hX.c11.trans (congrArg (fun z => some (Value.bool z)) HSi.out)
          have c19 : wr.cell? ⟨pb, 19, none⟩ = some (.int .u64 (m : Int)) := hX.c19
          have hLit : LitAt q.lb wr q.o1 q.l1 q.o2 q.l2 q.v := hX.at HA.out
          have hmb : m ≤ 4294967296 := by
            have h1 := HK.out.2.1
            have h2 := HK.out.2.2.2
            have h3 := HLn.out
            have h4 := HK.out.2.2.1
            omega
          have hmbI : (m : Int) ≤ 4294967296 := by omega
          have HXi := Lib.hid hX
          have HLit := Lib.hid hLit
          have HM := Lib.hid (And.intro hm0 hm1)
          clear hX hLit hm0 hm1 hmb
          by_cases hgo : m < q.l1 / 16384
          · have hgoI : (m : Int) < ((q.l1 / 16384 : Nat) : Int) := by omega
            have HGo := Lib.hid hgo
            clear hgo
            go_wp2_with fail
            go_region_held3 (fun w' => w'.cell? ⟨pb, 11, none⟩ = some (.bool false) ∧ w'.cell? ⟨pb, 19, none⟩ = some (.int .u64 (m : Int))) (first | exact ⟨c11, c19⟩ | exact ⟨k1, k2⟩ | exact ⟨m1, m2⟩ | simp [go_sem, *])
              (first
                | (go_at_call 100; refine (lit_pos (w := wr.drew) HLit.out).mono ?_; rintro e w1 ⟨rfl, hu1⟩
                   have k1 := hu1.cell (show wr.drew.cell? ⟨pb, 11, none⟩ = _ from c11) fun h => h
                   have k2 := hu1.cell (show wr.drew.cell? ⟨pb, 19, none⟩ = _ from c19) fun h => h
                   have HU1 := Lib.hid hu1
                   clear hu1)
                | (go_at_call 35; refine (pos_line _ _ HL1.out _).mono ?_; rintro e w2 ⟨rfl, hu2⟩
                   have m1 := hu2.cell k1 fun h => h
                   have m2 := hu2.cell k2 fun h => h
                   have HU2 := Lib.hid (HU1.out.trans hu2)
                   clear hu2))
            have hX2 := HXi.out.quiet hT (((Upd.refl (fun _ => False) wr).drew).trans HU2.out)
            have c0 := hX2.c0
            have HWs := Lib.hid (v_ws hT hX2 ⟨#[92, 10]⟩ (fun c hc => hT.ok c (by
              have h1 : c = 92 ∨ c = 10 := by simpa using hc
              rcases h1 with rfl | rfl <;> rfl)) (by
                have h1 := HK.out.1
                have h2 := HM.out
                have h3 := HGo.out
                have h4 := HK.out.2.2.1
                have h5 := HLn.out
                have h6 : (ByteArray.mk #[92, 10]).size = 2 := rfl
                rw [List.length_append, nls_len, h6]
                omega))
            clear hX2 HU1 HU2
            go_wp2_with (go_at_call 228; refine HWs.out.mono ?_; rintro e w3 ⟨rfl, hX3⟩
                         have d19 : w3.cell? ⟨pb, 19, none⟩ = some (.int .u64 (m : Int)) := hX3.c19
                         have f19 := hX3.fz 19
                         have HX3 := Lib.hid hX3
                         clear hX3)
            go_roundg (q.l1 / 16384 - (m + 1))
            case measure => have := HGo.out; omega
            case rel =>
              refine ⟨m + 1, by have := HM.out.1; omega, .inl HGo.out, rfl, (HX3.out.setc hT { v with ln := m + 1 } (fun _ => rfl) rfl).cast ?_ rfl⟩
              rw [show m + 1 - ln0 = (m - ln0) + 1 by have := HM.out.1; omega]
              simp only [nls, List.append_assoc]
          · have hgoI : ¬ (m : Int) < ((q.l1 / 16384 : Nat) : Int) := by omega
            have HGo := Lib.hid hgo
            clear hgo
            go_wp2_with fail
            go_region_held3 (fun w' => w'.cell? ⟨pb, 11, none⟩ = some (.bool false) ∧ w'.cell? ⟨pb, 19, none⟩ = some (.int .u64 (m : Int))) (first | exact ⟨c11, c19⟩ | exact ⟨k1, k2⟩ | exact ⟨m1, m2⟩ | simp [go_sem, *])
              (first
                | (go_at_call 100; refine (lit_pos (w := wr.drew) HLit.out).mono ?_; rintro e w1 ⟨rfl, hu1⟩
                   have k1 := hu1.cell (show wr.drew.cell? ⟨pb, 11, none⟩ = _ from c11) fun h => h
                   have k2 := hu1.cell (show wr.drew.cell? ⟨pb, 19, none⟩ = _ from c19) fun h => h
                   have HU1 := Lib.hid hu1
                   clear hu1)
                | (go_at_call 35; refine (pos_line _ _ HL1.out _).mono ?_; rintro e w2 ⟨rfl, hu2⟩
                   have m1 := hu2.cell k1 fun h => h
                   have m2 := hu2.cell k2 fun h => h
                   have HU2 := Lib.hid (HU1.out.trans hu2)
                   clear hu2))
            have hX2 := HXi.out.quiet hT (((Upd.refl (fun _ => False) wr).drew).trans HU2.out)
            have hdone : m - ln0 = q.ln - ln0 ∧ max m (q.l2 / 16384) = max ln0 q.ln := by
              have h1 := HM.out
              have h2 := HGo.out
              have h3 := HLn.out
              have h4 := HQ.out.2.2.2
              rw [h4, h3]
              omega
            have HDone := Lib.hid hdone
            have HWp := Lib.hid (fun nx => v_wordPart_lit hT hX2 HA.out nx HVq.out (by
                have h1 := HK.out.1
                have h2 := HK.out.2.2.1
                have h3 := hdone.1
                rw [List.length_append, nls_len]
                omega))
            have HL2 : RowKit.Hid (q.l2 < 4294967296) := by have h1 := HL1.out; have h2 := HQ.out.2.2.2; exact Lib.hid (by omega)
            clear hX2 HU1 HU2 hdone
            go_wp2_with (first
              | (go_at_call 37; refine (HWp.out _).mono ?_; rintro e w4 ⟨rfl, h4⟩; have HL4 := Lib.hid (show LitAt q.lb w4 q.o1 q.l1 q.o2 q.l2 q.v from h4.at HA.out); have H4 := Lib.hid h4; clear h4)
              | (go_at_call 221; refine (lit_end HL4.out).mono ?_; rintro e w5 ⟨rfl, hu5⟩; have HU5 := Lib.hid hu5; clear hu5)
              | (go_at_call 35; refine (pos_line _ _ HL2.out _).mono ?_; rintro e w6 ⟨rfl, hu6⟩; have HU6 := Lib.hid (HU5.out.trans hu6); clear hu6)
              | (go_at_call 53; refine (v_advance hT (H4.out.quiet hT HU6.out) _).mono ?_; rintro e w7 ⟨rfl, h7⟩; have H7 := Lib.hid h7; clear h7))
            go_roundg (n - (j + 1))
            case measure => have := HJ.out; omega
            case rel =>
              have hj : j < ps.length := by have := HJ.out; have := HN.out; omega
              refine ⟨j + 1, by go_num, by have := HJ.out; omega, H7.out.cast ?_ ?_⟩
              · rw [qText_take v.ln ps j hj, ← HQ.out.1, ← HQ.out.2.1, HDone.out.1]
                simp only [List.append_assoc]
              · rw [qLn_take v.ln ps j hj, ← HQ.out.1, ← HQ.out.2.1, ← HDone.out.2]
    · obtain rfl : j = n := by have := HJ.out; omega
      clear hI
      go_wp2_with fail
      go_end0
      refine ⟨rfl, HI.out.cast ?_ ?_⟩
      · rw [HN.out, List.take_length]
      · rw [HN.out, List.take_length]

/-- A single-quoted part on line 1. -/
def sglO (dollar : Bool) (s : ByteArray) : Obj := .cells #[.int .u32 0, .int .u32 16385, .int .u32 0, .int .u32 16385, .bool dollar, .string s] 213 (0, 0)
def sglText (dollar : Bool) (s : List UInt8) : List UInt8 := (if dollar then [36] else []) ++ [39] ++ s ++ [39]

set_option maxRecDepth 100000 in
set_option maxHeartbeats 1000000 in
theorem addCol1 (w : World) : Calls Tryz.prog 110 #[posV 0 16385, .int .i64 1] w fun e w' => e = .returned (posV 1 16386) ∧ Upd (fun _ => False) w w' := by
  have hb : bits BinOp.and IntKind.u32 16385 16383 = 1 := by rfl
  have hb2 : bits BinOp.andNot IntKind.u32 16385 16383 = 16384 := by rfl
  have hb3 : bits BinOp.or IntKind.u32 16384 2 = 16386 := by rfl
  have hm : min (1 : Int) 4294967284 = 1 := by rfl
  have hm2 : max (1 : Int) 0 = 1 := by rfl
  have hend : ((((w.alloc (.cells #[.int .u32 1, .int .u32 16386] 42)).alloc (.cells #[.int .u32 1, .int .u32 16386] 42)).alloc (.cells #[.int .u32 0, .int .u32 16385] 42)).alloc (.cells #[.int .u32 0, .int .u32 16385] 42)).heap[w.heap.size + 1]? = some (.cells #[.int .u32 1, .int .u32 16386] 42 (0, 0)) :=
    (Below.heap_alloc _ _ _ (by simp)).trans ((Below.heap_alloc _ _ _ (by simp)).trans (heap_alloc2_new w _ _))
  have HEnd := Lib.hid hend
  clear hend
  go_enter Tryz.func110, Tryz.ntmps110
  go_wp2
  refine bodyPost_ret (results_cell_row rfl _ _ (w.heap.size + 1) _ _ (0, 0) _ rfl HEnd.out Tryz.underlying42 rfl (by kernel_rfl)) rfl ?_
  exact ⟨rfl, ((((Upd.refl _ w).alloc _).alloc _).alloc _).alloc _⟩

set_option maxRecDepth 100000 in
theorem sgl_pos {sb : Nat} {w : World} {dollar : Bool} {s : ByteArray} (h : w.heap[sb]? = some (sglO dollar s)) : Calls Tryz.prog 283 #[.pointer (some ⟨sb, 0, none⟩)] w fun e w' => e = .returned (posV 0 16385) ∧ Upd (fun _ => False) w w' := by
  have c0 : w.cell? ⟨sb, 0, none⟩ = some (.int .u32 0) := cell_at h 0
  have c1 : w.cell? ⟨sb, 1, none⟩ = some (.int .u32 16385) := cell_at h 1
  have hlt : sb < w.heap.size := heap_lt h
  clear h
  go_enter Tryz.func283, Tryz.ntmps283
  go_wp2
  refine bodyPost_ret (results_cell_row rfl _ _ w.heap.size _ _ (0, 0) _ rfl (heap_alloc_new w _) Tryz.underlying42 rfl (by kernel_rfl)) rfl ?_
  exact ⟨rfl, (Upd.refl _ w).alloc _⟩

set_option maxRecDepth 100000 in
set_option maxHeartbeats 1000000 in
theorem sgl_end {sb : Nat} {w : World} {dollar : Bool} {s : ByteArray} (h : w.heap[sb]? = some (sglO dollar s)) : Calls Tryz.prog 90 #[.pointer (some ⟨sb, 0, none⟩)] w fun e w' => e = .returned (posV 1 16386) ∧ Upd (fun _ => False) w w' := by
  have c2 : w.cell? ⟨sb, 2, none⟩ = some (.int .u32 0) := cell_at h 2
  have c3 : w.cell? ⟨sb, 3, none⟩ = some (.int .u32 16385) := cell_at h 3
  have hlt : sb < w.heap.size := heap_lt h
  have HX := Lib.hid (heap_alloc_new w (.cells #[.int .u32 0, .int .u32 0] 42))
  have HU0 := Lib.hid ((Upd.refl (fun _ => False) w).alloc (.cells #[.int .u32 0, .int .u32 0] 42))
  clear h
  go_enter Tryz.func90, Tryz.ntmps90
  go_wp2_with (go_at_call 110; refine (addCol1 _).mono ?_)
  rintro e w1 ⟨rfl, hu1⟩
  have hX1 := hu1.heap HX.out fun h => h
  have x0 : w1.cell? ⟨w.heap.size, 0, none⟩ = some (.int .u32 0) := cell_at hX1 0
  have x1 : w1.cell? ⟨w.heap.size, 1, none⟩ = some (.int .u32 0) := cell_at hX1 1
  have f0 : w1.frozen? ⟨w.heap.size, 0, none⟩ = false := frozen_at hX1 0
  have f1 : w1.frozen? ⟨w.heap.size, 1, none⟩ = false := frozen_at hX1 1
  have HX1 := Lib.hid hX1
  have HU1 := Lib.hid (HU0.out.trans hu1)
  clear hX1 hu1
  go_wp2
  have hend : ((w1.setCell ⟨w.heap.size, 0, none⟩ (.int .u32 1)).setCell ⟨w.heap.size, 1, none⟩ (.int .u32 16386)).heap[w.heap.size]? = some (.cells #[.int .u32 1, .int .u32 16386] 42 (0, 0)) := by
    refine (heap_setCell_at _ (heap_setCell_at _ HX1.out)).trans ?_
    simp
  refine bodyPost_ret (results_cell_row rfl _ _ w.heap.size _ _ (0, 0) _ rfl hend Tryz.underlying42 rfl (by kernel_rfl)) rfl ?_
  exact ⟨rfl, (HU1.out.setCell (.inr (Nat.le_refl _)) _).setCell (.inr (Nat.le_refl _)) _⟩

set_option maxRecDepth 100000 in
set_option maxHeartbeats 4000000 in
theorem v_wordPart_sgl (hT : TOk T) (h : PX T pb b tv B w l v) {sb : Nat} {dollar : Bool} {s : ByteArray} (hA : B.At pb sb (sglO dollar s)) (nx : Value) (hv : ∀ x ∈ s.data.toList, T.okb x = true ∧ x ≠ 9) (hl : l.length + s.size + 3 ≤ LIM) :
    Calls Tryz.prog 37 #[.pointer (some ⟨pb, 0, none⟩), .iface 211 (.pointer (some ⟨sb, 0, none⟩)), nx] w fun e w' => e = .returned (.tuple #[]) ∧ PX T pb b tv B w' (l ++ sglText dollar s.data.toList) { v with ln := max v.ln 1 } := by
  have hta1 := fun w => asrt_other (P := Tryz.prog) Tryz.underlying63 (by kernel_rfl) (t := 211) (by decide) 66 (.pointer (some ⟨sb, 0, none⟩)) w
  have hta2 := fun w => asrt_same (P := Tryz.prog) Tryz.underlying211 66 (.pointer (some ⟨sb, 0, none⟩)) w
  have hm := bw_meth_wb b
  have ha := bw_ahead_wb b
  have c0 := h.c0
  have e4 : w.cell? ⟨sb, 4, none⟩ = some (.bool dollar) := cell_at (h.at hA) 4
  have HA := Lib.hid hA
  have HK := Lib.hid (And.intro hv hl)
  have hss : s.data.toList.length = s.size := rfl
  have HSS := Lib.hid hss
  clear hA hv hss
  cases dollar
  · have HW1 := Lib.hid (v_wb hT h 39 (x := 39) rfl (hT.ok 39 rfl) (by omega))
    clear h hl
    go_enter Tryz.func37, Tryz.ntmps37
    go_wp2_with (go_at_call 227; refine HW1.out.mono ?_)
    rintro e w1 ⟨rfl, h1⟩
    have e5 : w1.cell? ⟨sb, 5, none⟩ = some (.string s) := cell_at (h1.at HA.out) 5
    have HW2 := Lib.hid (v_writeLit hT h1 s (fun x hx => (HK.out.1 x hx).1) (fun x hx => (HK.out.1 x hx).2) (by have := HK.out.2; rw [List.length_append, List.length_singleton]; omega))
    clear h1 c0 e4
    go_wp2_with (go_at_call 88; refine HW2.out.mono ?_)
    rintro e w2 ⟨rfl, h2⟩
    have c0 := h2.c0
    have HW3 := Lib.hid (v_wb hT h2 39 (x := 39) rfl (hT.ok 39 rfl) (by have h1 := HK.out.2; have h2 := HSS.out; simp only [List.length_append, List.length_singleton, h2]; omega))
    clear h2 e5
    go_wp2_with (go_at_call 227; refine HW3.out.mono ?_)
    rintro e w3 ⟨rfl, h3⟩
    have HE := Lib.hid (sgl_end (h3.at HA.out))
    have H3 := Lib.hid h3
    clear h3 c0
    go_wp2_with (first
      | (go_at_call 90; refine HE.out.mono ?_; rintro e w5 ⟨rfl, hu5⟩; have HU5 := Lib.hid hu5; clear hu5)
      | (go_at_call 35; refine (pos_line _ _ (by decide) _).mono ?_; rintro e w6 ⟨rfl, hu6⟩; have HU6 := Lib.hid (HU5.out.trans hu6); clear hu6)
      | (go_at_call 53; refine (v_advance hT (H3.out.quiet hT HU6.out) 1).mono ?_; rintro e w7 ⟨rfl, h7⟩; have H7 := Lib.hid h7; clear h7))
    go_end0
    exact ⟨rfl, H7.out.cast (by simp [sglText]) rfl⟩
  · have HW0 := Lib.hid (v_wb hT h 36 (x := 36) rfl (hT.ok 36 rfl) (by omega))
    clear h hl
    go_enter Tryz.func37, Tryz.ntmps37
    go_wp2_with (go_at_call 227; refine HW0.out.mono ?_)
    rintro e w0 ⟨rfl, h0⟩
    have c0 := h0.c0
    have HW1 := Lib.hid (v_wb hT h0 39 (x := 39) rfl (hT.ok 39 rfl) (by have := HK.out.2; rw [List.length_append, List.length_singleton]; omega))
    clear h0 e4
    go_wp2_with (go_at_call 227; refine HW1.out.mono ?_)
    rintro e w1 ⟨rfl, h1⟩
    have e5 : w1.cell? ⟨sb, 5, none⟩ = some (.string s) := cell_at (h1.at HA.out) 5
    have HW2 := Lib.hid (v_writeLit hT h1 s (fun x hx => (HK.out.1 x hx).1) (fun x hx => (HK.out.1 x hx).2) (by have := HK.out.2; simp only [List.length_append, List.length_singleton]; omega))
    clear h1 c0
    go_wp2_with (go_at_call 88; refine HW2.out.mono ?_)
    rintro e w2 ⟨rfl, h2⟩
    have c0 := h2.c0
    have HW3 := Lib.hid (v_wb hT h2 39 (x := 39) rfl (hT.ok 39 rfl) (by have h1 := HK.out.2; have h2 := HSS.out; simp only [List.length_append, List.length_singleton, h2]; omega))
    clear h2 e5
    go_wp2_with (go_at_call 227; refine HW3.out.mono ?_)
    rintro e w3 ⟨rfl, h3⟩
    have HE := Lib.hid (sgl_end (h3.at HA.out))
    have H3 := Lib.hid h3
    clear h3 c0
    go_wp2_with (first
      | (go_at_call 90; refine HE.out.mono ?_; rintro e w5 ⟨rfl, hu5⟩; have HU5 := Lib.hid hu5; clear hu5)
      | (go_at_call 35; refine (pos_line _ _ (by decide) _).mono ?_; rintro e w6 ⟨rfl, hu6⟩; have HU6 := Lib.hid (HU5.out.trans hu6); clear hu6)
      | (go_at_call 53; refine (v_advance hT (H3.out.quiet hT HU6.out) 1).mono ?_; rintro e w7 ⟨rfl, h7⟩; have H7 := Lib.hid h7; clear h7))
    go_end0
    exact ⟨rfl, H7.out.cast (by simp [sglText]) rfl⟩
end
end Go.Proofs.YtnhmgjgdkcgmfaaGreatFmt
