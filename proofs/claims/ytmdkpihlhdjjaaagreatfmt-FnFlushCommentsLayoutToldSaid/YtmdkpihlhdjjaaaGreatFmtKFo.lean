/-
  n010_157: flushComments once, without KeepPadding.
-/
import Derived.Test.YtmdkpihlhdjjaaaGreatFmtKTfN
namespace Go.Proofs.YtmdkpihlhdjjaaaGreatFmt
open Go.RowKit

set_option maxRecDepth 100000 in
set_option maxHeartbeats 64000000 in
theorem n_one (v : VS) (hv : v = stVS v.mi v.si v.fl v.mn v.wn v.sm v.ws v.k v.lv v.ln) (hb : v.Bd) {lv tv : Value} {L : List Nat} {Tx : List ByteArray} {cs : List (Nat × ByteArray)} (hcz : cs = L.zip Tx) {w : World} (hL : UintsRd w lv L) (hT : StrsRd w tv Tx) (hl1 : L.length ≤ 4096) (hl2 : Tx.length ≤ 4096)
    (hcs : ∀ c ∈ cs, c.1 ≤ 262143 ∧ c.2.size ≤ 1048576) (hTr : ∀ W, Below w.heap.size w W → ∀ t : ByteArray, t.size ≤ 1048576 → Calls Tryz.prog 121 #[.string t, .func (.func 122) #[] #[]] W fun e w' => e = .returned (.string (trimB t)) ∧ Upd (fun _ => False) W w')
    {tx : List UInt8} {v1 : VS} {cl1 : Bool} (hall : fcAll false false v 0 cs = (tx, v1, cl1)) :
    Calls Tryz.prog 21 #[stVk false v, lv, tv] w fun e w' => e = .returned (.tuple #[.string ⟨tx.toArray⟩, stVk false v1]) ∧ Upd (fun _ => False) w w' := by
  have hmv := mIndent_le v hb
  have hlen := fcAll_len false cs false v 0 hmv fun c hc => (hcs c hc).2
  rw [hall] at hlen
  have hn4 : cs.length ≤ 4096 := by rw [hcz, List.length_zip]; omega
  obtain ⟨w1, hw1⟩ : ∃ w1, w1 = (w.alloc (.cells (stCk false v) 50)).alloc (.cells #[.bool false, .bool false, .bool false, .bool false, .bool false, .bool false, .bool false, .int .u64 0, .int .u64 0, .int .u64 0, .int .u8 0, .int .i64 0] 50) := ⟨_, rfl⟩
  have hz1 : w1.heap.size = w.heap.size + 2 := by rw [hw1]; simp
  have hx1 : w1.heap[w.heap.size]? = some (.cells (stCk false v) 50 (0, 0)) := by rw [hw1]; exact heap_alloc2_old w _ _
  have hy1 : w1.heap[w.heap.size + 1]? = some (.cells #[.bool false, .bool false, .bool false, .bool false, .bool false, .bool false, .bool false, .int .u64 0, .int .u64 0, .int .u64 0, .int .u8 0, .int .i64 0] 50 (0, 0)) := by rw [hw1]; exact heap_alloc2_new w _ _
  have hu1 : Upd (fun _ => False) w w1 := by rw [hw1]; exact ((Upd.refl _ w).alloc _).alloc _
  have hbd := zz_build v hv w1
  obtain ⟨Q, HQ, HC⟩ := callsVar hbd
  have s0 : w1.cell? ⟨w.heap.size, 0, none⟩ = some (.bool v.mi) := cell_at hx1 0
  have s1 : w1.cell? ⟨w.heap.size, 1, none⟩ = some (.bool v.si) := cell_at hx1 1
  have s2 : w1.cell? ⟨w.heap.size, 2, none⟩ = some (.bool false) := cell_at hx1 2
  have s3 : w1.cell? ⟨w.heap.size, 3, none⟩ = some (.bool v.fl) := cell_at hx1 3
  have s4 : w1.cell? ⟨w.heap.size, 4, none⟩ = some (.bool v.mn) := cell_at hx1 4
  have s5 : w1.cell? ⟨w.heap.size, 5, none⟩ = some (.bool v.wn) := cell_at hx1 5
  have s6 : w1.cell? ⟨w.heap.size, 6, none⟩ = some (.bool v.sm) := cell_at hx1 6
  have s7 : w1.cell? ⟨w.heap.size, 7, none⟩ = some (.int .u64 (v.k : Int)) := cell_at hx1 7
  have s8 : w1.cell? ⟨w.heap.size, 8, none⟩ = some (.int .u64 (v.ln : Int)) := cell_at hx1 8
  have s9 : w1.cell? ⟨w.heap.size, 9, none⟩ = some (.int .u64 (v.lv : Int)) := cell_at hx1 9
  have s10 : w1.cell? ⟨w.heap.size, 10, none⟩ = some (.int .u8 (v.ws : Int)) := cell_at hx1 10
  have s11 : w1.cell? ⟨w.heap.size, 11, none⟩ = some (.int .i64 0) := cell_at hx1 11
  rw [hw1] at HC s0 s1 s2 s3 s4 s5 s6 s7 s8 s9 s10 s11
  have HW1 := Lib.hid hw1
  have HX1 := Lib.hid (And.intro hz1 (And.intro hy1 hu1))
  have HL := Lib.hid (And.intro hb (And.intro hcs (And.intro hn4 (And.intro hall hlen))))
  have HIn := Lib.hid (And.intro hcz (And.intro hL (And.intro hT (And.intro hl1 hl2))))
  have HTr := Lib.hid hTr
  obtain ⟨ao, c0, hlv⟩ : ∃ ao c, lv = .slice ao L.length c := by
    rcases hL with ⟨h1, h2⟩ | ⟨a, c, h1, _⟩
    · exact ⟨none, 0, by rw [h1, h2]; rfl⟩
    · exact ⟨_, _, h1⟩
  clear hbd hv hz1 hx1 hy1 hu1 hw1 hb hcs hn4 hall hlen hmv hcz hL hT hl1 hl2 hTr hlv
  go_enter Tryz.func21, Tryz.ntmps21
  go_wp2_with (go_at_call 50; refine HC.out.mono ?_)
  rintro e w2 hq
  obtain ⟨pb, k, b, F, rfl, hX, hpb, hF, hu2⟩ := HQ.out e w2 hq
  clear hq s0 s1 s2 s3 s4 s5 s6 s7 s8 s9 s10 s11
  try rw [← HW1.out] at hpb hF hu2
  have hu02 := HX1.out.2.2.trans hu2
  have hcom := zz_comments HIn.out.1 (HIn.out.2.1.quiet hu02) (HIn.out.2.2.1.quiet hu02) HIn.out.2.2.2.1 HIn.out.2.2.2.2
  obtain ⟨Q2, HQ2, HC2⟩ := callsVar hcom
  have HX := Lib.hid (And.intro hX (And.intro hpb (And.intro hF (And.intro hu2 hu02))))
  clear hX hpb hF hu2 hu02 hcom
  go_wp2_with (go_at_call 51; refine HC2.out.mono ?_)
  rintro e w3 hq
  obtain ⟨pcv, rfl, hu3, hpc⟩ := HQ2.out e w3 hq
  clear hq
  obtain ⟨po, pn, pq, rfl⟩ : ∃ po pn pq, pcv = .slice po pn pq := by
    rcases hpc with ⟨_, h⟩ | ⟨_, g, h, _⟩
    · exact ⟨_, _, _, h⟩
    · exact ⟨_, _, _, h⟩
  obtain ⟨hX, hpb, hF, hu2, hu02⟩ := HX.out
  have hbl : Below w.heap.size w w2 := hu02.below (fun _ h => h.elim) (Nat.le_refl _)
  have hz := HX1.out.1
  obtain ⟨B', hB0, hBF, hBA, hlt, hfz, ⟨x17, h17⟩, hfl⟩ := n_first HL.out.1 hu2.size hX hpb hF hu3 hpc HL.out.2.1 HL.out.2.2.1 (fun W hW t ht => HTr.out W (hbl.trans (hW.mono (by omega))) t ht)
  have c17 : w3.cell? ⟨pb, 17, none⟩ = some x17 := h17
  have f17 : w3.frozen? ⟨pb, 17, none⟩ = false := hfz 17
  have hyB := hBA (w.heap.size + 1) _ (by omega) (hu2.heap HX1.out.2.1 fun h => h)
  rw [HL.out.2.2.2.1] at hfl
  have HFl := Lib.hid hfl
  have hu03 := hu02.trans hu3
  have HSz := Lib.hid (Nat.le_trans hu2.size hu3.size)
  have HB := Lib.hid (And.intro hB0 (And.intro hBF (And.intro hyB (And.intro hu03 hpb))))
  clear hX hpb hF hu2 hu02 hbl hz hB0 hBF hBA hfz h17 hfl hyB hu3 hpc hu03 hlt
  go_wp2_with (first
    | (go_at_call 47; refine HFl.out.mono ?_; rintro e w5 ⟨rfl, h5⟩
       have HRd := Lib.hid (zz_read h5.px (by have h1 := HL.out.2.2.2.2; have h2 := HL.out.2.2.1; (try simp only at h1); unfold LIM; omega))
       clear h5 HFl)
    | (go_at_call 52; refine HRd.out.mono ?_; rintro e w6 ⟨rfl, h6⟩
       have hy6 := h6.at HB.out.2.2.1
       have y0 : w6.cell? ⟨w.heap.size + 1, 0, none⟩ = some (.bool false) := cell_at hy6 0
       have fy0 : w6.frozen? ⟨w.heap.size + 1, 0, none⟩ = false := frozen_at hy6 0
       have y1 : w6.cell? ⟨w.heap.size + 1, 1, none⟩ = some (.bool false) := cell_at hy6 1
       have fy1 : w6.frozen? ⟨w.heap.size + 1, 1, none⟩ = false := frozen_at hy6 1
       have y2 : w6.cell? ⟨w.heap.size + 1, 2, none⟩ = some (.bool false) := cell_at hy6 2
       have fy2 : w6.frozen? ⟨w.heap.size + 1, 2, none⟩ = false := frozen_at hy6 2
       have y3 : w6.cell? ⟨w.heap.size + 1, 3, none⟩ = some (.bool false) := cell_at hy6 3
       have fy3 : w6.frozen? ⟨w.heap.size + 1, 3, none⟩ = false := frozen_at hy6 3
       have y4 : w6.cell? ⟨w.heap.size + 1, 4, none⟩ = some (.bool false) := cell_at hy6 4
       have fy4 : w6.frozen? ⟨w.heap.size + 1, 4, none⟩ = false := frozen_at hy6 4
       have y5 : w6.cell? ⟨w.heap.size + 1, 5, none⟩ = some (.bool false) := cell_at hy6 5
       have fy5 : w6.frozen? ⟨w.heap.size + 1, 5, none⟩ = false := frozen_at hy6 5
       have y6 : w6.cell? ⟨w.heap.size + 1, 6, none⟩ = some (.bool false) := cell_at hy6 6
       have fy6 : w6.frozen? ⟨w.heap.size + 1, 6, none⟩ = false := frozen_at hy6 6
       have y7 : w6.cell? ⟨w.heap.size + 1, 7, none⟩ = some (.int .u64 0) := cell_at hy6 7
       have fy7 : w6.frozen? ⟨w.heap.size + 1, 7, none⟩ = false := frozen_at hy6 7
       have y8 : w6.cell? ⟨w.heap.size + 1, 8, none⟩ = some (.int .u64 0) := cell_at hy6 8
       have fy8 : w6.frozen? ⟨w.heap.size + 1, 8, none⟩ = false := frozen_at hy6 8
       have y9 : w6.cell? ⟨w.heap.size + 1, 9, none⟩ = some (.int .u64 0) := cell_at hy6 9
       have fy9 : w6.frozen? ⟨w.heap.size + 1, 9, none⟩ = false := frozen_at hy6 9
       have y10 : w6.cell? ⟨w.heap.size + 1, 10, none⟩ = some (.int .u8 0) := cell_at hy6 10
       have fy10 : w6.frozen? ⟨w.heap.size + 1, 10, none⟩ = false := frozen_at hy6 10
       have y11 : w6.cell? ⟨w.heap.size + 1, 11, none⟩ = some (.int .i64 0) := cell_at hy6 11
       have fy11 : w6.frozen? ⟨w.heap.size + 1, 11, none⟩ = false := frozen_at hy6 11
       have HY6 := Lib.hid (And.intro hy6 h6.upd)
       clear hy6 h6 HRd))
  obtain ⟨hy6, hup6⟩ := HY6.out
  refine bodyPost_ret (results_tmp_cell_row rfl _ _ (w.heap.size + 1) _ _ (0, 0) _ rfl (stored12 hy6 _ _ _ _ _ _ _ _ _ _ _ _) Tryz.underlying50 rfl (by kernel_rfl)) rfl ?_
  have hz := HX1.out.1
  have hu06 : Upd (fun _ => False) w w6 := HB.out.2.2.2.1.trans' (by have h := hup6; rw [HB.out.1] at h; exact h) fun j hj => by
    right
    rcases hj with h | h
    · have := HB.out.2.2.2.2; omega
    · have := HB.out.2.1 j h; omega
  exact ⟨rfl, upd12 hu06 (.inr (by omega)) _ _ _ _ _ _ _ _ _ _ _ _⟩
end Go.Proofs.YtmdkpihlhdjjaaaGreatFmt
