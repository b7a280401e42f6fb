/-
  n010_157: rightParen, semiRsrv on a Printer that is built out of a state.
-/
import Derived.Test.YtgcoopjkjeoflaaGreatFmtRCr
import Derived.Test.YtgcoopjkjeoflaaGreatFmtRVh
namespace Go.Proofs.YtgcoopjkjeoflaaGreatFmtR
open Go.RowKit

theorem mIndent_bytes (v : VS) : ∀ c ∈ mIndent v, c = 255 ∨ c = 9 ∨ c = 32 := by
  intro c hc
  unfold mIndent at hc
  split at hc
  · cases hc
  · split at hc
    · cases hc
    · split at hc
      · simp only [List.mem_append, List.mem_singleton, List.mem_replicate] at hc
        rcases hc with (h | ⟨_, h⟩) | h
        · exact .inl h
        · exact .inr (.inl h)
        · exact .inl h
      · exact .inr (.inr (List.mem_replicate.1 hc).2)

/-- The bounds of a state. -/
structure VS.Bd (v : VS) : Prop where
  kl : v.k * v.lv ≤ 65536
  lv : v.lv ≤ 65536
  ln : v.ln ≤ 2147483648
theorem mIndent_le (v : VS) (h : v.Bd) : (mIndent v).length ≤ 65540 := by
  have h1 := h.kl
  have h2 := h.lv
  unfold mIndent
  split
  · simp
  · split
    · simp
    · split
      · simp only [List.length_append, List.length_replicate, List.length_singleton]; omega
      · rw [List.length_replicate]; omega
theorem mRp_len (v : VS) (L : Nat) : (mRp v L).length ≤ (mIndent v).length + 2 := by
  unfold mRp
  split
  · simp
  · exact mNls_len v L
theorem sRp_ws1 (v : VS) (L : Nat) : (sRp v L).ws = 1 := by
  unfold sRp
  split <;> rfl
theorem sNls_ln (v : VS) (L : Nat) : (sNls v L).ln = v.ln ∨ (sNls v L).ln = max v.ln L := by
  unfold sNls sIndent sNl
  split
  · exact .inl rfl
  · split
    · split <;> exact .inr rfl
    · exact .inl rfl
theorem sRp_ln (v : VS) (L : Nat) : (sRp v L).ln = v.ln ∨ (sRp v L).ln = max v.ln L := by
  unfold sRp
  split
  · exact .inl rfl
  · exact sNls_ln v L

theorem PX.fin {T : Sink} {pb b : Nat} {tv : Value} {B : Base} {w : World} {l : List UInt8} {v : VS} (x : PX T pb b tv B w l v) : Upd (fun j => j = pb ∨ B.F0 j) B.w0 w := by
  obtain ⟨F, h, x⟩ := x
  exact x.upd

set_option maxRecDepth 100000 in
set_option maxHeartbeats 8000000 in
theorem zz_rightParen (v : VS) (hv : v = stVS v.mi v.si v.fl v.mn v.wn v.sm v.ws v.k v.lv v.ln) (hb : v.Bd) (L : Nat) (hL : L ≤ 262143) (w : World) :
    Calls Tryz.prog 8 #[stV v, .int .u64 (L : Int), .int .u64 1] w fun e w' => e = .returned (.tuple #[.string ⟨(mRp v L ++ [41]).toArray⟩, stV (sRp v L)]) ∧ Upd (fun _ => False) w w' := by
  obtain ⟨w1, hw1⟩ : ∃ w1, w1 = ((w.alloc (.cells (stC v) 25)).alloc (.cells #[.bool false, .bool false, .bool false, .bool false, .bool false, .bool false, .bool false, .int .u64 0, .int .u64 0, .int .u64 0, .int .u8 0, .int .i64 0] 25)) := ⟨_, rfl⟩
  obtain ⟨u, hu⟩ : ∃ u, u = sRp v L := ⟨_, rfl⟩
  rw [← hu]
  have hz1 : w1.heap.size = w.heap.size + 2 := by rw [hw1]; simp
  have hx1 : w1.heap[w.heap.size]? = some (.cells (stC v) 25 (0, 0)) := by rw [hw1]; exact heap_alloc2_old w _ _
  have hy1 : w1.heap[w.heap.size + 1]? = some (.cells #[.bool false, .bool false, .bool false, .bool false, .bool false, .bool false, .bool false, .int .u64 0, .int .u64 0, .int .u64 0, .int .u8 0, .int .i64 0] 25 (0, 0)) := by rw [hw1]; exact heap_alloc2_new w _ _
  have hu1 : Upd (fun _ => False) w w1 := by rw [hw1]; exact ((Upd.refl _ w).alloc _).alloc _
  have hbd := zz_build v hv w1
  obtain ⟨Q, HQ, HC⟩ := callsVar hbd
  have s0 : w1.cell? ⟨w.heap.size, 0, none⟩ = some (.bool v.mi) := cell_at hx1 0
  have s1 : w1.cell? ⟨w.heap.size, 1, none⟩ = some (.bool v.si) := cell_at hx1 1
  have s2 : w1.cell? ⟨w.heap.size, 2, none⟩ = some (.bool false) := cell_at hx1 2
  have s3 : w1.cell? ⟨w.heap.size, 3, none⟩ = some (.bool v.fl) := cell_at hx1 3
  have s4 : w1.cell? ⟨w.heap.size, 4, none⟩ = some (.bool v.mn) := cell_at hx1 4
  have s5 : w1.cell? ⟨w.heap.size, 5, none⟩ = some (.bool v.wn) := cell_at hx1 5
  have s6 : w1.cell? ⟨w.heap.size, 6, none⟩ = some (.bool v.sm) := cell_at hx1 6
  have s7 : w1.cell? ⟨w.heap.size, 7, none⟩ = some (.int .u64 (v.k : Int)) := cell_at hx1 7
  have s8 : w1.cell? ⟨w.heap.size, 8, none⟩ = some (.int .u64 (v.ln : Int)) := cell_at hx1 8
  have s9 : w1.cell? ⟨w.heap.size, 9, none⟩ = some (.int .u64 (v.lv : Int)) := cell_at hx1 9
  have s10 : w1.cell? ⟨w.heap.size, 10, none⟩ = some (.int .u8 (v.ws : Int)) := cell_at hx1 10
  have s11 : w1.cell? ⟨w.heap.size, 11, none⟩ = some (.int .i64 0) := cell_at hx1 11
  rw [hw1] at HC s0 s1 s2 s3 s4 s5 s6 s7 s8 s9 s10 s11
  have HW1 := Lib.hid hw1
  have HX1 := Lib.hid (And.intro hz1 (And.intro hy1 hu1))
  have HL := Lib.hid (And.intro hb (And.intro hL hu))
  clear hbd hv hz1 hx1 hy1 hu1 hw1 hb hL hu
  go_enter Tryz.func8, Tryz.ntmps8
  go_wp2_with (go_at_call 14; refine HC.out.mono ?_)
  rintro e w2 hq
  obtain ⟨pb, k, b, F, rfl, hX, hpb, hF, hu2⟩ := HQ.out e w2 hq
  clear hq s0 s1 s2 s3 s4 s5 s6 s7 s8 s9 s10 s11
  have HX := Lib.hid hX
  have HF := Lib.hid (And.intro hpb (And.intro hF hu2))
  clear hX hpb hF hu2
  go_wp2_with (first
    | (go_at_call 16; refine (new_pos 0 L (by omega) _).mono ?_; rintro e w3 ⟨rfl, hu3⟩
       have HRp := Lib.hid (v_rightParen (bb_tok k) (HX.out.quiet (bb_tok k) hu3) 0 (lcP L) (lcP_lt L) (fun _ _ => rfl) (Nat.le_trans HL.out.1.kl (by decide)) (Nat.le_trans HL.out.1.lv (by decide)) (Nat.le_trans HL.out.1.ln (by decide)) (by have := mIndent_le v HL.out.1; unfold LIM; simp only [List.length_nil]; omega))
       clear hu3)
    | (go_at_call 15; refine HRp.out.mono ?_; rintro e w4 ⟨rfl, h4⟩
       have e4 : lcP L / 16384 = L := by rw [lcP_line]; unfold clampL; rw [if_neg (by have := HL.out.2.1; omega)]
       rw [e4, List.nil_append, ← HL.out.2.2] at h4
       have HRd := Lib.hid (zz_read h4 (by have h1 := mIndent_le v HL.out.1; have h2 := mRp_len v L; unfold LIM; rw [List.length_append, List.length_singleton]; omega))
       clear h4 e4 HRp)
    | (go_at_call 17; refine HRd.out.mono ?_; rintro e w5 ⟨rfl, h5⟩
       have hy5 := h5.fin.heap (HF.out.2.2.heap HX1.out.2.1 fun h => h) (by
         rintro (e | e)
         · have h1 := HF.out.1; have h2 := HX1.out.1; omega
         · have h1 := HF.out.2.1 _ e; have h2 := HX1.out.1; omega)
       have y0 : w5.cell? ⟨w.heap.size + 1, 0, none⟩ = some (.bool false) := cell_at hy5 0
       have fy0 : w5.frozen? ⟨w.heap.size + 1, 0, none⟩ = false := frozen_at hy5 0
       have y1 : w5.cell? ⟨w.heap.size + 1, 1, none⟩ = some (.bool false) := cell_at hy5 1
       have fy1 : w5.frozen? ⟨w.heap.size + 1, 1, none⟩ = false := frozen_at hy5 1
       have y2 : w5.cell? ⟨w.heap.size + 1, 2, none⟩ = some (.bool false) := cell_at hy5 2
       have fy2 : w5.frozen? ⟨w.heap.size + 1, 2, none⟩ = false := frozen_at hy5 2
       have y3 : w5.cell? ⟨w.heap.size + 1, 3, none⟩ = some (.bool false) := cell_at hy5 3
       have fy3 : w5.frozen? ⟨w.heap.size + 1, 3, none⟩ = false := frozen_at hy5 3
       have y4 : w5.cell? ⟨w.heap.size + 1, 4, none⟩ = some (.bool false) := cell_at hy5 4
       have fy4 : w5.frozen? ⟨w.heap.size + 1, 4, none⟩ = false := frozen_at hy5 4
       have y5 : w5.cell? ⟨w.heap.size + 1, 5, none⟩ = some (.bool false) := cell_at hy5 5
       have fy5 : w5.frozen? ⟨w.heap.size + 1, 5, none⟩ = false := frozen_at hy5 5
       have y6 : w5.cell? ⟨w.heap.size + 1, 6, none⟩ = some (.bool false) := cell_at hy5 6
       have fy6 : w5.frozen? ⟨w.heap.size + 1, 6, none⟩ = false := frozen_at hy5 6
       have y7 : w5.cell? ⟨w.heap.size + 1, 7, none⟩ = some (.int .u64 0) := cell_at hy5 7
       have fy7 : w5.frozen? ⟨w.heap.size + 1, 7, none⟩ = false := frozen_at hy5 7
       have y8 : w5.cell? ⟨w.heap.size + 1, 8, none⟩ = some (.int .u64 0) := cell_at hy5 8
       have fy8 : w5.frozen? ⟨w.heap.size + 1, 8, none⟩ = false := frozen_at hy5 8
       have y9 : w5.cell? ⟨w.heap.size + 1, 9, none⟩ = some (.int .u64 0) := cell_at hy5 9
       have fy9 : w5.frozen? ⟨w.heap.size + 1, 9, none⟩ = false := frozen_at hy5 9
       have y10 : w5.cell? ⟨w.heap.size + 1, 10, none⟩ = some (.int .u8 0) := cell_at hy5 10
       have fy10 : w5.frozen? ⟨w.heap.size + 1, 10, none⟩ = false := frozen_at hy5 10
       have y11 : w5.cell? ⟨w.heap.size + 1, 11, none⟩ = some (.int .i64 0) := cell_at hy5 11
       have fy11 : w5.frozen? ⟨w.heap.size + 1, 11, none⟩ = false := frozen_at hy5 11
       have HY5 := Lib.hid (And.intro hy5 h5)
       clear hy5 h5 HRd))
  obtain ⟨hy5, h5⟩ := HY5.out
  refine bodyPost_ret (results_tmp_cell_row rfl _ _ (w.heap.size + 1) _ _ (0, 0) _ rfl (stored12 hy5 _ _ _ _ _ _ _ _ _ _ _ _) Tryz.underlying25 rfl (by kernel_rfl)) rfl ?_
  have h1 := HX1.out.1
  have h2 := HF.out.1
  refine ⟨rfl, upd12 ((HX1.out.2.2.trans HF.out.2.2).trans' h5.fin fun j hj => ?_) (.inr (by omega)) _ _ _ _ _ _ _ _ _ _ _ _⟩
  rcases hj with h | h
  · exact .inr (by omega)
  · exact .inr (by have := HF.out.2.1 j h; omega)

set_option maxRecDepth 100000 in
set_option maxHeartbeats 8000000 in
theorem zz_semiRsrv (v : VS) (hv : v = stVS v.mi v.si v.fl v.mn v.wn v.sm v.ws v.k v.lv v.ln) (hb : v.Bd) (s : ByteArray) (hs : s.size ≤ 1048576) (L : Nat) (hL : L ≤ 262143) (w : World) :
    Calls Tryz.prog 11 #[stV v, .string s, .int .u64 (L : Int), .int .u64 1] w fun e w' => e = .returned (.tuple #[.string ⟨(mSr v L ++ s.data.toList).toArray⟩, stV (sSr v L)]) ∧ Upd (fun _ => False) w w' := by
  obtain ⟨w1, hw1⟩ : ∃ w1, w1 = ((w.alloc (.cells (stC v) 25)).alloc (.cells #[.bool false, .bool false, .bool false, .bool false, .bool false, .bool false, .bool false, .int .u64 0, .int .u64 0, .int .u64 0, .int .u8 0, .int .i64 0] 25)) := ⟨_, rfl⟩
  obtain ⟨u, hu⟩ : ∃ u, u = sSr v L := ⟨_, rfl⟩
  rw [← hu]
  have hz1 : w1.heap.size = w.heap.size + 2 := by rw [hw1]; simp
  have hx1 : w1.heap[w.heap.size]? = some (.cells (stC v) 25 (0, 0)) := by rw [hw1]; exact heap_alloc2_old w _ _
  have hy1 : w1.heap[w.heap.size + 1]? = some (.cells #[.bool false, .bool false, .bool false, .bool false, .bool false, .bool false, .bool false, .int .u64 0, .int .u64 0, .int .u64 0, .int .u8 0, .int .i64 0] 25 (0, 0)) := by rw [hw1]; exact heap_alloc2_new w _ _
  have hu1 : Upd (fun _ => False) w w1 := by rw [hw1]; exact ((Upd.refl _ w).alloc _).alloc _
  have hbd := zz_build v hv w1
  obtain ⟨Q, HQ, HC⟩ := callsVar hbd
  have s0 : w1.cell? ⟨w.heap.size, 0, none⟩ = some (.bool v.mi) := cell_at hx1 0
  have s1 : w1.cell? ⟨w.heap.size, 1, none⟩ = some (.bool v.si) := cell_at hx1 1
  have s2 : w1.cell? ⟨w.heap.size, 2, none⟩ = some (.bool false) := cell_at hx1 2
  have s3 : w1.cell? ⟨w.heap.size, 3, none⟩ = some (.bool v.fl) := cell_at hx1 3
  have s4 : w1.cell? ⟨w.heap.size, 4, none⟩ = some (.bool v.mn) := cell_at hx1 4
  have s5 : w1.cell? ⟨w.heap.size, 5, none⟩ = some (.bool v.wn) := cell_at hx1 5
  have s6 : w1.cell? ⟨w.heap.size, 6, none⟩ = some (.bool v.sm) := cell_at hx1 6
  have s7 : w1.cell? ⟨w.heap.size, 7, none⟩ = some (.int .u64 (v.k : Int)) := cell_at hx1 7
  have s8 : w1.cell? ⟨w.heap.size, 8, none⟩ = some (.int .u64 (v.ln : Int)) := cell_at hx1 8
  have s9 : w1.cell? ⟨w.heap.size, 9, none⟩ = some (.int .u64 (v.lv : Int)) := cell_at hx1 9
  have s10 : w1.cell? ⟨w.heap.size, 10, none⟩ = some (.int .u8 (v.ws : Int)) := cell_at hx1 10
  have s11 : w1.cell? ⟨w.heap.size, 11, none⟩ = some (.int .i64 0) := cell_at hx1 11
  rw [hw1] at HC s0 s1 s2 s3 s4 s5 s6 s7 s8 s9 s10 s11
  have HW1 := Lib.hid hw1
  have HX1 := Lib.hid (And.intro hz1 (And.intro hy1 hu1))
  have HSz := Lib.hid hs
  clear hs
  have HL := Lib.hid (And.intro hb (And.intro hL hu))
  clear hbd hv hz1 hx1 hy1 hu1 hw1 hb hL hu
  go_enter Tryz.func11, Tryz.ntmps11
  go_wp2_with (go_at_call 14; refine HC.out.mono ?_)
  rintro e w2 hq
  obtain ⟨pb, k, b, F, rfl, hX, hpb, hF, hu2⟩ := HQ.out e w2 hq
  clear hq s0 s1 s2 s3 s4 s5 s6 s7 s8 s9 s10 s11
  have HX := Lib.hid hX
  have HF := Lib.hid (And.intro hpb (And.intro hF hu2))
  clear hX hpb hF hu2
  go_wp2_with (first
    | (go_at_call 16; refine (new_pos 0 L (by omega) _).mono ?_; rintro e w3 ⟨rfl, hu3⟩
       have HRp := Lib.hid (v_semiRsrv (bb_tok k) (HX.out.quiet (bb_tok k) hu3) s 0 (lcP L) (lcP_lt L) (fun _ _ => rfl) (fun _ _ => rfl) (Nat.le_trans HL.out.1.kl (by decide)) (Nat.le_trans HL.out.1.lv (by decide)) (Nat.le_trans HL.out.1.ln (by decide)) (by have := mIndent_le v HL.out.1; have := HSz.out; unfold LIM; simp only [List.length_nil]; omega))
       clear hu3)
    | (go_at_call 18; refine HRp.out.mono ?_; rintro e w4 ⟨rfl, h4⟩
       have e4 : lcP L / 16384 = L := by rw [lcP_line]; unfold clampL; rw [if_neg (by have := HL.out.2.1; omega)]
       rw [e4, List.nil_append, ← HL.out.2.2] at h4
       have HRd := Lib.hid (zz_read h4 (by have h1 := mIndent_le v HL.out.1; have h2 := mSr_len v L; have h3 := HSz.out; have h4 : s.data.toList.length = s.size := rfl; unfold LIM; rw [List.length_append, h4]; omega))
       clear h4 e4 HRp)
    | (go_at_call 17; refine HRd.out.mono ?_; rintro e w5 ⟨rfl, h5⟩
       have hy5 := h5.fin.heap (HF.out.2.2.heap HX1.out.2.1 fun h => h) (by
         rintro (e | e)
         · have h1 := HF.out.1; have h2 := HX1.out.1; omega
         · have h1 := HF.out.2.1 _ e; have h2 := HX1.out.1; omega)
       have y0 : w5.cell? ⟨w.heap.size + 1, 0, none⟩ = some (.bool false) := cell_at hy5 0
       have fy0 : w5.frozen? ⟨w.heap.size + 1, 0, none⟩ = false := frozen_at hy5 0
       have y1 : w5.cell? ⟨w.heap.size + 1, 1, none⟩ = some (.bool false) := cell_at hy5 1
       have fy1 : w5.frozen? ⟨w.heap.size + 1, 1, none⟩ = false := frozen_at hy5 1
       have y2 : w5.cell? ⟨w.heap.size + 1, 2, none⟩ = some (.bool false) := cell_at hy5 2
       have fy2 : w5.frozen? ⟨w.heap.size + 1, 2, none⟩ = false := frozen_at hy5 2
       have y3 : w5.cell? ⟨w.heap.size + 1, 3, none⟩ = some (.bool false) := cell_at hy5 3
       have fy3 : w5.frozen? ⟨w.heap.size + 1, 3, none⟩ = false := frozen_at hy5 3
       have y4 : w5.cell? ⟨w.heap.size + 1, 4, none⟩ = some (.bool false) := cell_at hy5 4
       have fy4 : w5.frozen? ⟨w.heap.size + 1, 4, none⟩ = false := frozen_at hy5 4
       have y5 : w5.cell? ⟨w.heap.size + 1, 5, none⟩ = some (.bool false) := cell_at hy5 5
       have fy5 : w5.frozen? ⟨w.heap.size + 1, 5, none⟩ = false := frozen_at hy5 5
       have y6 : w5.cell? ⟨w.heap.size + 1, 6, none⟩ = some (.bool false) := cell_at hy5 6
       have fy6 : w5.frozen? ⟨w.heap.size + 1, 6, none⟩ = false := frozen_at hy5 6
       have y7 : w5.cell? ⟨w.heap.size + 1, 7, none⟩ = some (.int .u64 0) := cell_at hy5 7
       have fy7 : w5.frozen? ⟨w.heap.size + 1, 7, none⟩ = false := frozen_at hy5 7
       have y8 : w5.cell? ⟨w.heap.size + 1, 8, none⟩ = some (.int .u64 0) := cell_at hy5 8
       have fy8 : w5.frozen? ⟨w.heap.size + 1, 8, none⟩ = false := frozen_at hy5 8
       have y9 : w5.cell? ⟨w.heap.size + 1, 9, none⟩ = some (.int .u64 0) := cell_at hy5 9
       have fy9 : w5.frozen? ⟨w.heap.size + 1, 9, none⟩ = false := frozen_at hy5 9
       have y10 : w5.cell? ⟨w.heap.size + 1, 10, none⟩ = some (.int .u8 0) := cell_at hy5 10
       have fy10 : w5.frozen? ⟨w.heap.size + 1, 10, none⟩ = false := frozen_at hy5 10
       have y11 : w5.cell? ⟨w.heap.size + 1, 11, none⟩ = some (.int .i64 0) := cell_at hy5 11
       have fy11 : w5.frozen? ⟨w.heap.size + 1, 11, none⟩ = false := frozen_at hy5 11
       have HY5 := Lib.hid (And.intro hy5 h5)
       clear hy5 h5 HRd))
  obtain ⟨hy5, h5⟩ := HY5.out
  refine bodyPost_ret (results_tmp_cell_row rfl _ _ (w.heap.size + 1) _ _ (0, 0) _ rfl (stored12 hy5 _ _ _ _ _ _ _ _ _ _ _ _) Tryz.underlying25 rfl (by kernel_rfl)) rfl ?_
  have h1 := HX1.out.1
  have h2 := HF.out.1
  refine ⟨rfl, upd12 ((HX1.out.2.2.trans HF.out.2.2).trans' h5.fin fun j hj => ?_) (.inr (by omega)) _ _ _ _ _ _ _ _ _ _ _ _⟩
  rcases hj with h | h
  · exact .inr (by omega)
  · exact .inr (by have := HF.out.2.1 j h; omega)
end Go.Proofs.YtgcoopjkjeoflaaGreatFmtR
