/-
  n010_157: flushComments twice, without KeepPadding.
-/
import Derived.Test.YtmdkpihlhdjjaaaGreatFmtKTfAX
import Derived.Test.YtmdkpihlhdjjaaaGreatFmtKFlN
namespace Go.Proofs.YtmdkpihlhdjjaaaGreatFmt
open Go.RowKit

set_option maxRecDepth 100000 in
set_option maxHeartbeats 1000000 in
/-- No comments are left: nothing is printed. -/
theorem n_flush0 {T : Sink} (hT : TOk T) {pb b K : Nat} {B : Base} {w : World} {l : List UInt8} {v : VS} {cl : Bool} (h : FX T pb b false K (.slice none 0 0) B w l v cl) :
    Calls Tryz.prog 47 #[.pointer (some ⟨pb, 0, none⟩)] w fun e w' => e = .returned (.tuple #[]) ∧ FX T pb b false K (.slice none 0 0) B w' l v cl := by
  have c17 := h.c17
  have f17 := h.fz 17
  have HA := Lib.hid h
  clear h
  go_enter Tryz.func47, Tryz.ntmps47
  go_wp2_with fail
  go_loopg [18] 0 (fun _ v18 wr => v18 = .int .i64 0 ∧ w = wr)
  case atStart => exact ⟨rfl, rfl⟩
  case round =>
    obtain ⟨rfl, rfl⟩ := hrel
    go_wp2
    go_end0
    exact ⟨rfl, HA.out.setpc hT (.slice none 0 0)⟩

set_option maxRecDepth 100000 in
set_option maxHeartbeats 64000000 in
/-- The use from the comments on, behind which the text and the state are read: what the first flush leaves. -/
theorem n_first {pb k b : Nat} {w2 w3 : World} {F : Nat → Prop} {v : VS} {cs : List (Nat × ByteArray)} {pcv : Value} {N : Nat} (hb : v.Bd) (hN : N ≤ w2.heap.size)
    (hX : PX (bbS k) pb b (.pointer none) ⟨w2, F⟩ w2 [] v) (hpb : N ≤ pb) (hF : ∀ j, F j → N ≤ j) (hu3 : Upd (fun _ => False) w2 w3)
    (hpc : (cs = [] ∧ pcv = .slice none 0 0) ∨ (0 < cs.length ∧ ∃ g, pcv = .slice (some ⟨g, 0, none⟩) cs.length cs.length ∧ w2.heap.size ≤ g ∧ w3.heap[g]? = some (.cells (comC cs).toArray 42 (0, 0))))
    (hcs : ∀ c ∈ cs, c.1 ≤ 262143 ∧ c.2.size ≤ 1048576) (hn4 : cs.length ≤ 4096)
    (hTr : ∀ W, Below N w2 W → ∀ t : ByteArray, t.size ≤ 1048576 → Calls Tryz.prog 121 #[.string t, .func (.func 122) #[] #[]] W fun e w' => e = .returned (.string (trimB t)) ∧ Upd (fun _ => False) W w') :
    ∃ B' : Base, B'.w0 = w3 ∧ (∀ j, B'.F0 j → N ≤ j) ∧ (∀ j o, j < N → w2.heap[j]? = some o → B'.At pb j o) ∧ pb < w2.heap.size ∧ (∀ i, w3.frozen? ⟨pb, i, none⟩ = false) ∧ (∃ x, w3.cell? ⟨pb, 17, none⟩ = some x) ∧
      Calls Tryz.prog 47 #[.pointer (some ⟨pb, 0, none⟩)] (w3.setCell ⟨pb, 17, none⟩ pcv) fun e w' => e = .returned (.tuple #[]) ∧ FX (bbS k) pb b false 0 (.slice none 0 0) B' w' (fcAll false false v 0 cs).1 (fcAll false false v 0 cs).2.1 (fcAll false false v 0 cs).2.2 := by
  obtain ⟨B', hX3, hAo, hAn, hB0, hB1⟩ := hX.base2 (bb_tok k) hu3
  have hlt := hX.lt
  have hF0 : ∀ j, B'.F0 j → N ≤ j := fun j hj => (hB0 j hj).elim (hF j) fun h => Nat.le_trans hN h
  refine ⟨B', hB1, hF0, fun j o hj ho => hAo j o ⟨ho, by omega, fun e => by have := hF j e; omega⟩, hlt, fun i => hX3.fz i, ⟨_, hX3.c17.choose_spec.choose_spec⟩, ?_⟩
  have hX4 : FX (bbS k) pb b false 0 pcv B' (w3.setCell ⟨pb, 17, none⟩ pcv) [] v false := hX3.fx (bb_tok k) pcv
  have hok : (∀ c, (bbS k).okb c = true) ∧ 0 ≤ LIM := ⟨fun _ => rfl, by decide⟩
  rcases hpc with ⟨rfl, rfl⟩ | ⟨h0, g, rfl, hg, hrow⟩
  · refine (n_flush0 (bb_tok k) hX4).mono ?_
    rintro e w' ⟨rfl, h1⟩
    exact ⟨rfl, h1⟩
  · refine (n_flush (bb_tok k) hok (fun K2 pc2 W l2 v2 cl2 h t ht => hTr W ?_ t ht) hX4 (hAn g _ hg hrow) h0 hcs hn4 hb.kl hb.lv hb.ln (by simp)).mono ?_
    · have h1 := h.upd
      rw [hB1] at h1
      have h2 : Below N w3 W := h1.below (fun j hj => hj.elim (fun e => by omega) (hF0 j)) (Nat.le_trans hN hu3.size)
      exact (hu3.below (fun _ h => h.elim) hN).trans h2
    · rintro e w' ⟨rfl, h1⟩
      exact ⟨rfl, h1⟩
set_option maxRecDepth 100000 in
set_option maxHeartbeats 64000000 in
theorem n_twice (v : VS) (hv : v = stVS v.mi v.si v.fl v.mn v.wn v.sm v.ws v.k v.lv v.ln) (hb : v.Bd) {lv tv : Value} {L : List Nat} {Tx : List ByteArray} {cs : List (Nat × ByteArray)} (hcz : cs = L.zip Tx) {w : World} (hL : UintsRd w lv L) (hT : StrsRd w tv Tx) (hl1 : L.length ≤ 4096) (hl2 : Tx.length ≤ 4096)
    (hcs : ∀ c ∈ cs, c.1 ≤ 262143 ∧ c.2.size ≤ 1048576) (hTr : ∀ W, Below w.heap.size w W → ∀ t : ByteArray, t.size ≤ 1048576 → Calls Tryz.prog 121 #[.string t, .func (.func 122) #[] #[]] W fun e w' => e = .returned (.string (trimB t)) ∧ Upd (fun _ => False) W w') :
    Calls Tryz.prog 18 #[stVk false v, lv, tv] w fun e w' => ∃ (o1 : ByteArray) (v1 : VS), e = .returned (.tuple #[.string o1, stVk false v1, .string ⟨#[]⟩, stVk false v1]) ∧ Upd (fun _ => False) w w' ∧ cs.length ≤ o1.data.toList.count 35 ∧ v.ln ≤ v1.ln ∧ (∀ c ∈ cs, c.1 ≤ v1.ln) ∧ o1.size ≤ 5000000000 := by
  obtain ⟨tx, v1, cl1, hall⟩ : ∃ tx v1 cl1, fcAll false false v 0 cs = (tx, v1, cl1) := ⟨_, _, _, rfl⟩
  have hfacts := fcAll_facts false cs false v 0
  have hmv := mIndent_le v hb
  have hlen := fcAll_len false cs false v 0 hmv fun c hc => (hcs c hc).2
  rw [hall] at hfacts hlen
  have hn4 : cs.length ≤ 4096 := by rw [hcz, List.length_zip]; omega
  obtain ⟨w1, hw1⟩ : ∃ w1, w1 = (((w.alloc (.cells (stCk false v) 50)).alloc (.cells #[.bool false, .bool false, .bool false, .bool false, .bool false, .bool false, .bool false, .int .u64 0, .int .u64 0, .int .u64 0, .int .u8 0, .int .i64 0] 50)).alloc (.cells #[.bool false, .bool false, .bool false, .bool false, .bool false, .bool false, .bool false, .int .u64 0, .int .u64 0, .int .u64 0, .int .u8 0, .int .i64 0] 50)) := ⟨_, rfl⟩
  have hz1 : w1.heap.size = w.heap.size + 3 := by rw [hw1]; simp
  have hx1 : w1.heap[w.heap.size]? = some (.cells (stCk false v) 50 (0, 0)) := by rw [hw1]; exact (Below.heap_alloc _ _ _ (by simp <;> omega)).trans (heap_alloc2_old w _ _)
  have hy1 : w1.heap[w.heap.size + 1]? = some (.cells #[.bool false, .bool false, .bool false, .bool false, .bool false, .bool false, .bool false, .int .u64 0, .int .u64 0, .int .u64 0, .int .u8 0, .int .i64 0] 50 (0, 0)) := by rw [hw1]; exact (Below.heap_alloc _ _ _ (by simp <;> omega)).trans (heap_alloc2_new w _ _)
  have hq1 : w1.heap[w.heap.size + 1 + 1]? = some (.cells #[.bool false, .bool false, .bool false, .bool false, .bool false, .bool false, .bool false, .int .u64 0, .int .u64 0, .int .u64 0, .int .u8 0, .int .i64 0] 50 (0, 0)) := by
    rw [hw1]
    have h := heap_alloc_new ((w.alloc (.cells (stCk false v) 50)).alloc (.cells #[.bool false, .bool false, .bool false, .bool false, .bool false, .bool false, .bool false, .int .u64 0, .int .u64 0, .int .u64 0, .int .u8 0, .int .i64 0] 50)) (.cells #[.bool false, .bool false, .bool false, .bool false, .bool false, .bool false, .bool false, .int .u64 0, .int .u64 0, .int .u64 0, .int .u8 0, .int .i64 0] 50)
    rw [show ((w.alloc (.cells (stCk false v) 50)).alloc (.cells #[.bool false, .bool false, .bool false, .bool false, .bool false, .bool false, .bool false, .int .u64 0, .int .u64 0, .int .u64 0, .int .u8 0, .int .i64 0] 50)).heap.size = w.heap.size + 1 + 1 by simp] at h
    exact h
  have hu1 : Upd (fun _ => False) w w1 := by rw [hw1]; exact (((Upd.refl _ w).alloc _).alloc _).alloc _
  have hbd := zz_build v hv w1
  obtain ⟨Q, HQ, HC⟩ := callsVar hbd
  have s0 : w1.cell? ⟨w.heap.size, 0, none⟩ = some (.bool v.mi) := cell_at hx1 0
  have s1 : w1.cell? ⟨w.heap.size, 1, none⟩ = some (.bool v.si) := cell_at hx1 1
  have s2 : w1.cell? ⟨w.heap.size, 2, none⟩ = some (.bool false) := cell_at hx1 2
  have s3 : w1.cell? ⟨w.heap.size, 3, none⟩ = some (.bool v.fl) := cell_at hx1 3
  have s4 : w1.cell? ⟨w.heap.size, 4, none⟩ = some (.bool v.mn) := cell_at hx1 4
  have s5 : w1.cell? ⟨w.heap.size, 5, none⟩ = some (.bool v.wn) := cell_at hx1 5
  have s6 : w1.cell? ⟨w.heap.size, 6, none⟩ = some (.bool v.sm) := cell_at hx1 6
  have s7 : w1.cell? ⟨w.heap.size, 7, none⟩ = some (.int .u64 (v.k : Int)) := cell_at hx1 7
  have s8 : w1.cell? ⟨w.heap.size, 8, none⟩ = some (.int .u64 (v.ln : Int)) := cell_at hx1 8
  have s9 : w1.cell? ⟨w.heap.size, 9, none⟩ = some (.int .u64 (v.lv : Int)) := cell_at hx1 9
  have s10 : w1.cell? ⟨w.heap.size, 10, none⟩ = some (.int .u8 (v.ws : Int)) := cell_at hx1 10
  have s11 : w1.cell? ⟨w.heap.size, 11, none⟩ = some (.int .i64 0) := cell_at hx1 11
  rw [hw1] at HC s0 s1 s2 s3 s4 s5 s6 s7 s8 s9 s10 s11
  have HW1 := Lib.hid hw1
  have HX1 := Lib.hid (And.intro hz1 (And.intro hy1 (And.intro hq1 hu1)))
  have HL := Lib.hid (And.intro hb (And.intro hcs (And.intro hn4 (And.intro hall (And.intro hfacts hlen)))))
  have HIn := Lib.hid (And.intro hcz (And.intro hL (And.intro hT (And.intro hl1 hl2))))
  have HTr := Lib.hid hTr
  obtain ⟨ao, c0, hlv⟩ : ∃ ao c, lv = .slice ao L.length c := by
    rcases hL with ⟨h1, h2⟩ | ⟨a, c, h1, _⟩
    · exact ⟨none, 0, by rw [h1, h2]; rfl⟩
    · exact ⟨_, _, h1⟩
  clear hbd hv hz1 hx1 hy1 hq1 hu1 hw1 hb hcs hn4 hall hfacts hlen hmv hcz hL hT hl1 hl2 hTr hlv
  go_enter Tryz.func18, Tryz.ntmps18
  go_wp2_with (go_at_call 50; refine HC.out.mono ?_)
  rintro e w2 hq
  obtain ⟨pb, k, b, F, rfl, hX, hpb, hF, hu2⟩ := HQ.out e w2 hq
  clear hq s0 s1 s2 s3 s4 s5 s6 s7 s8 s9 s10 s11
  try rw [← HW1.out] at hpb hF hu2
  have hu02 := HX1.out.2.2.2.trans hu2
  have hcom := zz_comments HIn.out.1 (HIn.out.2.1.quiet hu02) (HIn.out.2.2.1.quiet hu02) HIn.out.2.2.2.1 HIn.out.2.2.2.2
  obtain ⟨Q2, HQ2, HC2⟩ := callsVar hcom
  have HX := Lib.hid (And.intro hX (And.intro hpb (And.intro hF (And.intro hu2 hu02))))
  clear hX hpb hF hu2 hu02 hcom
  go_wp2_with (go_at_call 51; refine HC2.out.mono ?_)
  rintro e w3 hq
  obtain ⟨pcv, rfl, hu3, hpc⟩ := HQ2.out e w3 hq
  clear hq
  obtain ⟨po, pn, pq, rfl⟩ : ∃ po pn pq, pcv = .slice po pn pq := by
    rcases hpc with ⟨_, h⟩ | ⟨_, g, h, _⟩
    · exact ⟨_, _, _, h⟩
    · exact ⟨_, _, _, h⟩
  obtain ⟨hX, hpb, hF, hu2, hu02⟩ := HX.out
  have hbl : Below w.heap.size w w2 := hu02.below (fun _ h => h.elim) (Nat.le_refl _)
  have hz := HX1.out.1
  obtain ⟨B', hB0, hBF, hBA, hlt, hfz, ⟨x17, h17⟩, hfl⟩ := n_first HL.out.1 hu2.size hX hpb hF hu3 hpc HL.out.2.1 HL.out.2.2.1 (fun W hW t ht => HTr.out W (hbl.trans (hW.mono (by omega))) t ht)
  have c17 : w3.cell? ⟨pb, 17, none⟩ = some x17 := h17
  have f17 : w3.frozen? ⟨pb, 17, none⟩ = false := hfz 17
  have hyB := hBA (w.heap.size + 1) _ (by omega) (hu2.heap HX1.out.2.1 fun h => h)
  have hqB := hBA (w.heap.size + 1 + 1) _ (by omega) (hu2.heap HX1.out.2.2.1 fun h => h)
  rw [HL.out.2.2.2.1] at hfl
  have HFl := Lib.hid hfl
  have hu03 := hu02.trans hu3
  have HSz := Lib.hid (Nat.le_trans hu2.size hu3.size)
  have HB := Lib.hid (And.intro hB0 (And.intro hBF (And.intro hyB (And.intro hqB (And.intro hu03 hpb)))))
  clear hX hpb hF hu2 hu02 hbl hz hB0 hBF hBA hfz h17 hfl hyB hqB hu3 hpc hu03 hlt
  go_wp2_with (first
    | (go_at_call 47; refine HFl.out.mono ?_; rintro e w5 ⟨rfl, h5⟩
       have HRd := Lib.hid (zz_read h5.px (by have h1 := HL.out.2.2.2.2.2; have h2 := HL.out.2.2.1; (try simp only at h1); unfold LIM; omega))
       clear h5 HFl)
    | (go_at_call 52; refine HRd.out.mono ?_; rintro e w6 ⟨rfl, h6⟩
       have hb6 := h6.base2 (bb_tok k) ((Upd.refl (fun _ => False) w6).alloc (.cells (stCk false v1) 50))
       obtain ⟨B2, h7, hA2, hN2, hF2, hw2⟩ := hb6
       have HB2 := Lib.hid (And.intro h6.upd (And.intro (hA2 _ _ HB.out.2.2.1) (And.intro (hA2 _ _ HB.out.2.2.2.1) (And.intro (hN2 w6.heap.size _ (Nat.le_refl _) (heap_alloc_new w6 _)) (And.intro hF2 hw2)))))
       have HFl2 := Lib.hid (v_fc (bb_tok k) h7)
       clear h6 h7 hA2 hN2 hF2 hw2 HRd)
    | (go_at_call 47; refine HFl2.out.mono ?_; rintro e w7 ⟨rfl, h7⟩
       have HRd2 := Lib.hid (zz_read h7 (by simp))
       clear h7 HFl2)
    | (go_at_call 52; refine HRd2.out.mono ?_; rintro e w8 ⟨rfl, h8⟩
       have k13 := h8.at HB2.out.2.2.2.1
       have k1 := h8.at HB2.out.2.1
       have k2 := h8.at HB2.out.2.2.1
       have HU8 := Lib.hid (And.intro k13 (And.intro k1 (And.intro k2 h8.upd)))
       clear k13 k1 k2 h8 HRd2))
  obtain ⟨k13, k1, k2, hup8⟩ := HU8.out
  have m13 : (w8.alloc (.cells (stCk false v1) 50)).heap[w6.heap.size]? = some (.cells (stCk false v1) 50 (0, 0)) := (Below.heap_alloc _ _ _ (heap_lt k13)).trans k13
  have m15 := heap_alloc_new w8 (.cells (stCk false v1) 50)
  have m1 : (w8.alloc (.cells (stCk false v1) 50)).heap[w.heap.size + 1]? = some (.cells #[.bool false, .bool false, .bool false, .bool false, .bool false, .bool false, .bool false, .int .u64 0, .int .u64 0, .int .u64 0, .int .u8 0, .int .i64 0] 50 (0, 0)) := (Below.heap_alloc _ _ _ (heap_lt k1)).trans k1
  have m2 : (w8.alloc (.cells (stCk false v1) 50)).heap[w.heap.size + 1 + 1]? = some (.cells #[.bool false, .bool false, .bool false, .bool false, .bool false, .bool false, .bool false, .int .u64 0, .int .u64 0, .int .u64 0, .int .u8 0, .int .i64 0] 50 (0, 0)) := (Below.heap_alloc _ _ _ (heap_lt k2)).trans k2
  have p0 : (w8.alloc (.cells (stCk false v1) 50)).cell? ⟨w6.heap.size, 0, none⟩ = some (.bool v1.mi) := cell_at m13 0
  have p1 : (w8.alloc (.cells (stCk false v1) 50)).cell? ⟨w6.heap.size, 1, none⟩ = some (.bool v1.si) := cell_at m13 1
  have p2 : (w8.alloc (.cells (stCk false v1) 50)).cell? ⟨w6.heap.size, 2, none⟩ = some (.bool false) := cell_at m13 2
  have p3 : (w8.alloc (.cells (stCk false v1) 50)).cell? ⟨w6.heap.size, 3, none⟩ = some (.bool v1.fl) := cell_at m13 3
  have p4 : (w8.alloc (.cells (stCk false v1) 50)).cell? ⟨w6.heap.size, 4, none⟩ = some (.bool v1.mn) := cell_at m13 4
  have p5 : (w8.alloc (.cells (stCk false v1) 50)).cell? ⟨w6.heap.size, 5, none⟩ = some (.bool v1.wn) := cell_at m13 5
  have p6 : (w8.alloc (.cells (stCk false v1) 50)).cell? ⟨w6.heap.size, 6, none⟩ = some (.bool v1.sm) := cell_at m13 6
  have p7 : (w8.alloc (.cells (stCk false v1) 50)).cell? ⟨w6.heap.size, 7, none⟩ = some (.int .u64 (v1.k : Int)) := cell_at m13 7
  have p8 : (w8.alloc (.cells (stCk false v1) 50)).cell? ⟨w6.heap.size, 8, none⟩ = some (.int .u64 (v1.ln : Int)) := cell_at m13 8
  have p9 : (w8.alloc (.cells (stCk false v1) 50)).cell? ⟨w6.heap.size, 9, none⟩ = some (.int .u64 (v1.lv : Int)) := cell_at m13 9
  have p10 : (w8.alloc (.cells (stCk false v1) 50)).cell? ⟨w6.heap.size, 10, none⟩ = some (.int .u8 (v1.ws : Int)) := cell_at m13 10
  have p11 : (w8.alloc (.cells (stCk false v1) 50)).cell? ⟨w6.heap.size, 11, none⟩ = some (.int .i64 0) := cell_at m13 11
  have q0 : (w8.alloc (.cells (stCk false v1) 50)).cell? ⟨w8.heap.size, 0, none⟩ = some (.bool v1.mi) := cell_at m15 0
  have q1 : (w8.alloc (.cells (stCk false v1) 50)).cell? ⟨w8.heap.size, 1, none⟩ = some (.bool v1.si) := cell_at m15 1
  have q2 : (w8.alloc (.cells (stCk false v1) 50)).cell? ⟨w8.heap.size, 2, none⟩ = some (.bool false) := cell_at m15 2
  have q3 : (w8.alloc (.cells (stCk false v1) 50)).cell? ⟨w8.heap.size, 3, none⟩ = some (.bool v1.fl) := cell_at m15 3
  have q4 : (w8.alloc (.cells (stCk false v1) 50)).cell? ⟨w8.heap.size, 4, none⟩ = some (.bool v1.mn) := cell_at m15 4
  have q5 : (w8.alloc (.cells (stCk false v1) 50)).cell? ⟨w8.heap.size, 5, none⟩ = some (.bool v1.wn) := cell_at m15 5
  have q6 : (w8.alloc (.cells (stCk false v1) 50)).cell? ⟨w8.heap.size, 6, none⟩ = some (.bool v1.sm) := cell_at m15 6
  have q7 : (w8.alloc (.cells (stCk false v1) 50)).cell? ⟨w8.heap.size, 7, none⟩ = some (.int .u64 (v1.k : Int)) := cell_at m15 7
  have q8 : (w8.alloc (.cells (stCk false v1) 50)).cell? ⟨w8.heap.size, 8, none⟩ = some (.int .u64 (v1.ln : Int)) := cell_at m15 8
  have q9 : (w8.alloc (.cells (stCk false v1) 50)).cell? ⟨w8.heap.size, 9, none⟩ = some (.int .u64 (v1.lv : Int)) := cell_at m15 9
  have q10 : (w8.alloc (.cells (stCk false v1) 50)).cell? ⟨w8.heap.size, 10, none⟩ = some (.int .u8 (v1.ws : Int)) := cell_at m15 10
  have q11 : (w8.alloc (.cells (stCk false v1) 50)).cell? ⟨w8.heap.size, 11, none⟩ = some (.int .i64 0) := cell_at m15 11
  have a0 : (w8.alloc (.cells (stCk false v1) 50)).cell? ⟨w.heap.size + 1, 0, none⟩ = some (.bool false) := cell_at m1 0
  have a1 : (w8.alloc (.cells (stCk false v1) 50)).cell? ⟨w.heap.size + 1, 1, none⟩ = some (.bool false) := cell_at m1 1
  have a2 : (w8.alloc (.cells (stCk false v1) 50)).cell? ⟨w.heap.size + 1, 2, none⟩ = some (.bool false) := cell_at m1 2
  have a3 : (w8.alloc (.cells (stCk false v1) 50)).cell? ⟨w.heap.size + 1, 3, none⟩ = some (.bool false) := cell_at m1 3
  have a4 : (w8.alloc (.cells (stCk false v1) 50)).cell? ⟨w.heap.size + 1, 4, none⟩ = some (.bool false) := cell_at m1 4
  have a5 : (w8.alloc (.cells (stCk false v1) 50)).cell? ⟨w.heap.size + 1, 5, none⟩ = some (.bool false) := cell_at m1 5
  have a6 : (w8.alloc (.cells (stCk false v1) 50)).cell? ⟨w.heap.size + 1, 6, none⟩ = some (.bool false) := cell_at m1 6
  have a7 : (w8.alloc (.cells (stCk false v1) 50)).cell? ⟨w.heap.size + 1, 7, none⟩ = some (.int .u64 0) := cell_at m1 7
  have a8 : (w8.alloc (.cells (stCk false v1) 50)).cell? ⟨w.heap.size + 1, 8, none⟩ = some (.int .u64 0) := cell_at m1 8
  have a9 : (w8.alloc (.cells (stCk false v1) 50)).cell? ⟨w.heap.size + 1, 9, none⟩ = some (.int .u64 0) := cell_at m1 9
  have a10 : (w8.alloc (.cells (stCk false v1) 50)).cell? ⟨w.heap.size + 1, 10, none⟩ = some (.int .u8 0) := cell_at m1 10
  have a11 : (w8.alloc (.cells (stCk false v1) 50)).cell? ⟨w.heap.size + 1, 11, none⟩ = some (.int .i64 0) := cell_at m1 11
  have fa0 : (w8.alloc (.cells (stCk false v1) 50)).frozen? ⟨w.heap.size + 1, 0, none⟩ = false := frozen_at m1 0
  have fa1 : (w8.alloc (.cells (stCk false v1) 50)).frozen? ⟨w.heap.size + 1, 1, none⟩ = false := frozen_at m1 1
  have fa2 : (w8.alloc (.cells (stCk false v1) 50)).frozen? ⟨w.heap.size + 1, 2, none⟩ = false := frozen_at m1 2
  have fa3 : (w8.alloc (.cells (stCk false v1) 50)).frozen? ⟨w.heap.size + 1, 3, none⟩ = false := frozen_at m1 3
  have fa4 : (w8.alloc (.cells (stCk false v1) 50)).frozen? ⟨w.heap.size + 1, 4, none⟩ = false := frozen_at m1 4
  have fa5 : (w8.alloc (.cells (stCk false v1) 50)).frozen? ⟨w.heap.size + 1, 5, none⟩ = false := frozen_at m1 5
  have fa6 : (w8.alloc (.cells (stCk false v1) 50)).frozen? ⟨w.heap.size + 1, 6, none⟩ = false := frozen_at m1 6
  have fa7 : (w8.alloc (.cells (stCk false v1) 50)).frozen? ⟨w.heap.size + 1, 7, none⟩ = false := frozen_at m1 7
  have fa8 : (w8.alloc (.cells (stCk false v1) 50)).frozen? ⟨w.heap.size + 1, 8, none⟩ = false := frozen_at m1 8
  have fa9 : (w8.alloc (.cells (stCk false v1) 50)).frozen? ⟨w.heap.size + 1, 9, none⟩ = false := frozen_at m1 9
  have fa10 : (w8.alloc (.cells (stCk false v1) 50)).frozen? ⟨w.heap.size + 1, 10, none⟩ = false := frozen_at m1 10
  have fa11 : (w8.alloc (.cells (stCk false v1) 50)).frozen? ⟨w.heap.size + 1, 11, none⟩ = false := frozen_at m1 11
  have b0 : (w8.alloc (.cells (stCk false v1) 50)).cell? ⟨w.heap.size + 1 + 1, 0, none⟩ = some (.bool false) := cell_at m2 0
  have b1 : (w8.alloc (.cells (stCk false v1) 50)).cell? ⟨w.heap.size + 1 + 1, 1, none⟩ = some (.bool false) := cell_at m2 1
  have b2 : (w8.alloc (.cells (stCk false v1) 50)).cell? ⟨w.heap.size + 1 + 1, 2, none⟩ = some (.bool false) := cell_at m2 2
  have b3 : (w8.alloc (.cells (stCk false v1) 50)).cell? ⟨w.heap.size + 1 + 1, 3, none⟩ = some (.bool false) := cell_at m2 3
  have b4 : (w8.alloc (.cells (stCk false v1) 50)).cell? ⟨w.heap.size + 1 + 1, 4, none⟩ = some (.bool false) := cell_at m2 4
  have b5 : (w8.alloc (.cells (stCk false v1) 50)).cell? ⟨w.heap.size + 1 + 1, 5, none⟩ = some (.bool false) := cell_at m2 5
  have b6 : (w8.alloc (.cells (stCk false v1) 50)).cell? ⟨w.heap.size + 1 + 1, 6, none⟩ = some (.bool false) := cell_at m2 6
  have b7 : (w8.alloc (.cells (stCk false v1) 50)).cell? ⟨w.heap.size + 1 + 1, 7, none⟩ = some (.int .u64 0) := cell_at m2 7
  have b8 : (w8.alloc (.cells (stCk false v1) 50)).cell? ⟨w.heap.size + 1 + 1, 8, none⟩ = some (.int .u64 0) := cell_at m2 8
  have b9 : (w8.alloc (.cells (stCk false v1) 50)).cell? ⟨w.heap.size + 1 + 1, 9, none⟩ = some (.int .u64 0) := cell_at m2 9
  have b10 : (w8.alloc (.cells (stCk false v1) 50)).cell? ⟨w.heap.size + 1 + 1, 10, none⟩ = some (.int .u8 0) := cell_at m2 10
  have b11 : (w8.alloc (.cells (stCk false v1) 50)).cell? ⟨w.heap.size + 1 + 1, 11, none⟩ = some (.int .i64 0) := cell_at m2 11
  have fb0 : (w8.alloc (.cells (stCk false v1) 50)).frozen? ⟨w.heap.size + 1 + 1, 0, none⟩ = false := frozen_at m2 0
  have fb1 : (w8.alloc (.cells (stCk false v1) 50)).frozen? ⟨w.heap.size + 1 + 1, 1, none⟩ = false := frozen_at m2 1
  have fb2 : (w8.alloc (.cells (stCk false v1) 50)).frozen? ⟨w.heap.size + 1 + 1, 2, none⟩ = false := frozen_at m2 2
  have fb3 : (w8.alloc (.cells (stCk false v1) 50)).frozen? ⟨w.heap.size + 1 + 1, 3, none⟩ = false := frozen_at m2 3
  have fb4 : (w8.alloc (.cells (stCk false v1) 50)).frozen? ⟨w.heap.size + 1 + 1, 4, none⟩ = false := frozen_at m2 4
  have fb5 : (w8.alloc (.cells (stCk false v1) 50)).frozen? ⟨w.heap.size + 1 + 1, 5, none⟩ = false := frozen_at m2 5
  have fb6 : (w8.alloc (.cells (stCk false v1) 50)).frozen? ⟨w.heap.size + 1 + 1, 6, none⟩ = false := frozen_at m2 6
  have fb7 : (w8.alloc (.cells (stCk false v1) 50)).frozen? ⟨w.heap.size + 1 + 1, 7, none⟩ = false := frozen_at m2 7
  have fb8 : (w8.alloc (.cells (stCk false v1) 50)).frozen? ⟨w.heap.size + 1 + 1, 8, none⟩ = false := frozen_at m2 8
  have fb9 : (w8.alloc (.cells (stCk false v1) 50)).frozen? ⟨w.heap.size + 1 + 1, 9, none⟩ = false := frozen_at m2 9
  have fb10 : (w8.alloc (.cells (stCk false v1) 50)).frozen? ⟨w.heap.size + 1 + 1, 10, none⟩ = false := frozen_at m2 10
  have fb11 : (w8.alloc (.cells (stCk false v1) 50)).frozen? ⟨w.heap.size + 1 + 1, 11, none⟩ = false := frozen_at m2 11
  have l13 : w.heap.size + 3 ≤ w6.heap.size := by
    have h1 := HB.out.2.2.2.2.1.size
    have h2 := HB2.out.1.size
    have h3 := HB.out.1
    rw [h3] at h2
    have h4 := heap_lt k2
    have h5 := HX1.out.1
    have h6 := HB.out.2.2.2.2.2
    have h7 := HSz.out
    omega
  have l15 : w6.heap.size < w8.heap.size := heap_lt k13
  have uA : Upd (fun j => j = w.heap.size + 1) (w8.alloc (.cells (stCk false v1) 50)) (((((((((((((w8.alloc (.cells (stCk false v1) 50)).setCell ⟨w.heap.size + 1, 0, none⟩ (.bool v1.mi)).setCell ⟨w.heap.size + 1, 1, none⟩ (.bool v1.si)).setCell ⟨w.heap.size + 1, 2, none⟩ (.bool false)).setCell ⟨w.heap.size + 1, 3, none⟩ (.bool v1.fl)).setCell ⟨w.heap.size + 1, 4, none⟩ (.bool v1.mn)).setCell ⟨w.heap.size + 1, 5, none⟩ (.bool v1.wn)).setCell ⟨w.heap.size + 1, 6, none⟩ (.bool v1.sm)).setCell ⟨w.heap.size + 1, 7, none⟩ (.int .u64 (v1.k : Int))).setCell ⟨w.heap.size + 1, 8, none⟩ (.int .u64 (v1.ln : Int))).setCell ⟨w.heap.size + 1, 9, none⟩ (.int .u64 (v1.lv : Int))).setCell ⟨w.heap.size + 1, 10, none⟩ (.int .u8 (v1.ws : Int))).setCell ⟨w.heap.size + 1, 11, none⟩ (.int .i64 0)) := upd12 (Upd.refl (fun j => j = w.heap.size + 1) _) (.inl rfl) (.bool v1.mi) (.bool v1.si) (.bool false) (.bool v1.fl) (.bool v1.mn) (.bool v1.wn) (.bool v1.sm) (.int .u64 (v1.k : Int)) (.int .u64 (v1.ln : Int)) (.int .u64 (v1.lv : Int)) (.int .u8 (v1.ws : Int)) (.int .i64 0)
  have uB : Upd (fun j => j = w.heap.size + 1 + 1) (((((((((((((w8.alloc (.cells (stCk false v1) 50)).setCell ⟨w.heap.size + 1, 0, none⟩ (.bool v1.mi)).setCell ⟨w.heap.size + 1, 1, none⟩ (.bool v1.si)).setCell ⟨w.heap.size + 1, 2, none⟩ (.bool false)).setCell ⟨w.heap.size + 1, 3, none⟩ (.bool v1.fl)).setCell ⟨w.heap.size + 1, 4, none⟩ (.bool v1.mn)).setCell ⟨w.heap.size + 1, 5, none⟩ (.bool v1.wn)).setCell ⟨w.heap.size + 1, 6, none⟩ (.bool v1.sm)).setCell ⟨w.heap.size + 1, 7, none⟩ (.int .u64 (v1.k : Int))).setCell ⟨w.heap.size + 1, 8, none⟩ (.int .u64 (v1.ln : Int))).setCell ⟨w.heap.size + 1, 9, none⟩ (.int .u64 (v1.lv : Int))).setCell ⟨w.heap.size + 1, 10, none⟩ (.int .u8 (v1.ws : Int))).setCell ⟨w.heap.size + 1, 11, none⟩ (.int .i64 0)) (((((((((((((((((((((((((w8.alloc (.cells (stCk false v1) 50)).setCell ⟨w.heap.size + 1, 0, none⟩ (.bool v1.mi)).setCell ⟨w.heap.size + 1, 1, none⟩ (.bool v1.si)).setCell ⟨w.heap.size + 1, 2, none⟩ (.bool false)).setCell ⟨w.heap.size + 1, 3, none⟩ (.bool v1.fl)).setCell ⟨w.heap.size + 1, 4, none⟩ (.bool v1.mn)).setCell ⟨w.heap.size + 1, 5, none⟩ (.bool v1.wn)).setCell ⟨w.heap.size + 1, 6, none⟩ (.bool v1.sm)).setCell ⟨w.heap.size + 1, 7, none⟩ (.int .u64 (v1.k : Int))).setCell ⟨w.heap.size + 1, 8, none⟩ (.int .u64 (v1.ln : Int))).setCell ⟨w.heap.size + 1, 9, none⟩ (.int .u64 (v1.lv : Int))).setCell ⟨w.heap.size + 1, 10, none⟩ (.int .u8 (v1.ws : Int))).setCell ⟨w.heap.size + 1, 11, none⟩ (.int .i64 0)).setCell ⟨w.heap.size + 1 + 1, 0, none⟩ (.bool v1.mi)).setCell ⟨w.heap.size + 1 + 1, 1, none⟩ (.bool v1.si)).setCell ⟨w.heap.size + 1 + 1, 2, none⟩ (.bool false)).setCell ⟨w.heap.size + 1 + 1, 3, none⟩ (.bool v1.fl)).setCell ⟨w.heap.size + 1 + 1, 4, none⟩ (.bool v1.mn)).setCell ⟨w.heap.size + 1 + 1, 5, none⟩ (.bool v1.wn)).setCell ⟨w.heap.size + 1 + 1, 6, none⟩ (.bool v1.sm)).setCell ⟨w.heap.size + 1 + 1, 7, none⟩ (.int .u64 (v1.k : Int))).setCell ⟨w.heap.size + 1 + 1, 8, none⟩ (.int .u64 (v1.ln : Int))).setCell ⟨w.heap.size + 1 + 1, 9, none⟩ (.int .u64 (v1.lv : Int))).setCell ⟨w.heap.size + 1 + 1, 10, none⟩ (.int .u8 (v1.ws : Int))).setCell ⟨w.heap.size + 1 + 1, 11, none⟩ (.int .i64 0)) := upd12 (Upd.refl (fun j => j = w.heap.size + 1 + 1) _) (.inl rfl) (.bool v1.mi) (.bool v1.si) (.bool false) (.bool v1.fl) (.bool v1.mn) (.bool v1.wn) (.bool v1.sm) (.int .u64 (v1.k : Int)) (.int .u64 (v1.ln : Int)) (.int .u64 (v1.lv : Int)) (.int .u8 (v1.ws : Int)) (.int .i64 0)
  have fA := stored12 m1 (.bool v1.mi) (.bool v1.si) (.bool false) (.bool v1.fl) (.bool v1.mn) (.bool v1.wn) (.bool v1.sm) (.int .u64 (v1.k : Int)) (.int .u64 (v1.ln : Int)) (.int .u64 (v1.lv : Int)) (.int .u8 (v1.ws : Int)) (.int .i64 0)
  have fB := stored12 (uA.heap m2 (by omega)) (.bool v1.mi) (.bool v1.si) (.bool false) (.bool v1.fl) (.bool v1.mn) (.bool v1.wn) (.bool v1.sm) (.int .u64 (v1.k : Int)) (.int .u64 (v1.ln : Int)) (.int .u64 (v1.lv : Int)) (.int .u8 (v1.ws : Int)) (.int .i64 0)
  have gA13 := uA.heap m13 (by omega)
  have gA15 := uA.heap m15 (by omega)
  have gB13 := uB.heap gA13 (by omega)
  have gB15 := uB.heap gA15 (by omega)
  have HFin := Lib.hid (And.intro gA13 (And.intro gA15 (And.intro gB13 gB15)))
  have HEnd := Lib.hid (And.intro (uB.heap fA (by omega)) (And.intro fB (And.intro uA (And.intro uB hup8))))
  clear k13 k1 k2 hup8 m13 m15 m1 m2 uA uB fA fB gA13 gA15 gB13 gB15 l13 l15
  go_wp2_with fail
  refine wp_region_held_drew (S := fun W => W.cell? ⟨w6.heap.size, 0, none⟩ = some (.bool v1.mi) ∧ W.cell? ⟨w6.heap.size, 1, none⟩ = some (.bool v1.si) ∧ W.cell? ⟨w6.heap.size, 2, none⟩ = some (.bool false) ∧ W.cell? ⟨w6.heap.size, 3, none⟩ = some (.bool v1.fl) ∧ W.cell? ⟨w6.heap.size, 4, none⟩ = some (.bool v1.mn) ∧ W.cell? ⟨w6.heap.size, 5, none⟩ = some (.bool v1.wn) ∧ W.cell? ⟨w6.heap.size, 6, none⟩ = some (.bool v1.sm) ∧ W.cell? ⟨w6.heap.size, 7, none⟩ = some (.int .u64 (v1.k : Int)) ∧ W.cell? ⟨w6.heap.size, 8, none⟩ = some (.int .u64 (v1.ln : Int)) ∧ W.cell? ⟨w6.heap.size, 9, none⟩ = some (.int .u64 (v1.lv : Int)) ∧ W.cell? ⟨w6.heap.size, 10, none⟩ = some (.int .u8 (v1.ws : Int)) ∧ W.cell? ⟨w6.heap.size, 11, none⟩ = some (.int .i64 0) ∧ W.cell? ⟨w8.heap.size, 0, none⟩ = some (.bool v1.mi) ∧ W.cell? ⟨w8.heap.size, 1, none⟩ = some (.bool v1.si) ∧ W.cell? ⟨w8.heap.size, 2, none⟩ = some (.bool false) ∧ W.cell? ⟨w8.heap.size, 3, none⟩ = some (.bool v1.fl) ∧ W.cell? ⟨w8.heap.size, 4, none⟩ = some (.bool v1.mn) ∧ W.cell? ⟨w8.heap.size, 5, none⟩ = some (.bool v1.wn) ∧ W.cell? ⟨w8.heap.size, 6, none⟩ = some (.bool v1.sm) ∧ W.cell? ⟨w8.heap.size, 7, none⟩ = some (.int .u64 (v1.k : Int)) ∧ W.cell? ⟨w8.heap.size, 8, none⟩ = some (.int .u64 (v1.ln : Int)) ∧ W.cell? ⟨w8.heap.size, 9, none⟩ = some (.int .u64 (v1.lv : Int)) ∧ W.cell? ⟨w8.heap.size, 10, none⟩ = some (.int .u8 (v1.ws : Int)) ∧ W.cell? ⟨w8.heap.size, 11, none⟩ = some (.int .i64 0)) (by kernel_rfl) ⟨p0, p1, p2, p3, p4, p5, p6, p7, p8, p9, p10, p11, q0, q1, q2, q3, q4, q5, q6, q7, q8, q9, q10, q11⟩ (fun hHeld => ?_)
  refine wpAnyH_take (i := 0) (v := ?vt0) rfl (by kernel_rfl) (by kernel_rfl) (by kernel_rfl) (fun _ _ _ h => h) (Or.inl ⟨by rfl, ?ht0⟩) (by assumption) ?rt0
  case ht0 => (intro w hSw; (try dsimp only at hSw); go_simp; try with_reducible rfl)
  try simp only [List.getElem_toArray, List.getElem_cons_zero, Act.put, List.setIfInBounds_toArray, List.set_cons_zero, List.set_cons_succ]
  refine wpAnyH_take (i := 1) (v := ?vt1) rfl (by kernel_rfl) (by kernel_rfl) (by kernel_rfl) (fun _ _ _ h => h) (Or.inl ⟨by rfl, ?ht1⟩) (by assumption) ?rt1
  case ht1 => (intro w hSw; (try dsimp only at hSw); go_simp; try with_reducible rfl)
  try simp only [List.getElem_toArray, List.getElem_cons_zero, List.getElem_cons_succ, Act.put, List.setIfInBounds_toArray, List.set_cons_zero, List.set_cons_succ]
  refine wpAnyH_take (i := 2) (v := ?vt2) rfl (by kernel_rfl) (by kernel_rfl) (by kernel_rfl) (fun _ _ _ h => h) (Or.inl ⟨by rfl, ?ht2⟩) (by assumption) ?rt2
  case ht2 => (intro w hSw; (try dsimp only at hSw); go_simp; try with_reducible rfl)
  try simp only [List.getElem_toArray, List.getElem_cons_zero, List.getElem_cons_succ, Act.put, List.setIfInBounds_toArray, List.set_cons_zero, List.set_cons_succ]
  refine wpAnyH_take (i := 3) (v := ?vt3) rfl (by kernel_rfl) (by kernel_rfl) (by kernel_rfl) (fun _ _ _ h => h) (Or.inl ⟨by rfl, ?ht3⟩) (by assumption) ?rt3
  case ht3 => (intro w hSw; (try dsimp only at hSw); go_simp; try with_reducible rfl)
  try simp only [List.getElem_toArray, List.getElem_cons_zero, List.getElem_cons_succ, Act.put, List.setIfInBounds_toArray, List.set_cons_zero, List.set_cons_succ]
  refine wpAnyH_take (i := 4) (v := ?vt4) rfl (by kernel_rfl) (by kernel_rfl) (by kernel_rfl) (fun _ _ _ h => h) (Or.inl ⟨by rfl, ?ht4⟩) (by assumption) ?rt4
  case ht4 => (intro w hSw; (try dsimp only at hSw); go_simp; try with_reducible rfl)
  try simp only [List.getElem_toArray, List.getElem_cons_zero, List.getElem_cons_succ, Act.put, List.setIfInBounds_toArray, List.set_cons_zero, List.set_cons_succ]
  refine wpAnyH_ready (rs := [5]) (by kernel_rfl) (by simp) ?_
  refine AllReadyH.cons rfl (fun K hK => ?_) AllReadyH.nil
  rw [if_pos (by rfl)]
  go_simp
  refine hK.out _ _ ?gA (fun hS => ?_)
  case gA => exact ⟨drew_at HFin.out.1 0, drew_at HFin.out.1 1, drew_at HFin.out.1 2, drew_at HFin.out.1 3, drew_at HFin.out.1 4, drew_at HFin.out.1 5, drew_at HFin.out.1 6, drew_at HFin.out.1 7, drew_at HFin.out.1 8, drew_at HFin.out.1 9, drew_at HFin.out.1 10, drew_at HFin.out.1 11, drew_at HFin.out.2.1 0, drew_at HFin.out.2.1 1, drew_at HFin.out.2.1 2, drew_at HFin.out.2.1 3, drew_at HFin.out.2.1 4, drew_at HFin.out.2.1 5, drew_at HFin.out.2.1 6, drew_at HFin.out.2.1 7, drew_at HFin.out.2.1 8, drew_at HFin.out.2.1 9, drew_at HFin.out.2.1 10, drew_at HFin.out.2.1 11⟩
  clear hK K
  try simp only [List.getElem_toArray, List.getElem_cons_zero, List.getElem_cons_succ, Act.put, List.setIfInBounds_toArray, List.set_cons_zero, List.set_cons_succ]
  refine wpAnyH_take (i := 6) (v := ?vt6) rfl (by kernel_rfl) (by kernel_rfl) (by kernel_rfl) (fun _ _ _ h => h) (Or.inl ⟨by rfl, ?ht6⟩) (by assumption) ?rt6
  case ht6 => (intro w hSw; (try dsimp only at hSw); go_simp; try with_reducible rfl)
  try simp only [List.getElem_toArray, List.getElem_cons_zero, List.getElem_cons_succ, Act.put, List.setIfInBounds_toArray, List.set_cons_zero, List.set_cons_succ]
  refine wpAnyH_ready (rs := [7]) (by kernel_rfl) (by simp) ?_
  refine AllReadyH.cons rfl (fun K hK => ?_) AllReadyH.nil
  rw [if_pos (by rfl)]
  go_simp
  refine hK.out _ _ ?gB (fun hS => ?_)
  case gB => exact ⟨drew_at HFin.out.2.2.1 0, drew_at HFin.out.2.2.1 1, drew_at HFin.out.2.2.1 2, drew_at HFin.out.2.2.1 3, drew_at HFin.out.2.2.1 4, drew_at HFin.out.2.2.1 5, drew_at HFin.out.2.2.1 6, drew_at HFin.out.2.2.1 7, drew_at HFin.out.2.2.1 8, drew_at HFin.out.2.2.1 9, drew_at HFin.out.2.2.1 10, drew_at HFin.out.2.2.1 11, drew_at HFin.out.2.2.2 0, drew_at HFin.out.2.2.2 1, drew_at HFin.out.2.2.2 2, drew_at HFin.out.2.2.2 3, drew_at HFin.out.2.2.2 4, drew_at HFin.out.2.2.2 5, drew_at HFin.out.2.2.2 6, drew_at HFin.out.2.2.2 7, drew_at HFin.out.2.2.2 8, drew_at HFin.out.2.2.2 9, drew_at HFin.out.2.2.2 10, drew_at HFin.out.2.2.2 11⟩
  clear hK K
  try simp only [List.getElem_toArray, List.getElem_cons_zero, List.getElem_cons_succ, Act.put, List.setIfInBounds_toArray, List.set_cons_zero, List.set_cons_succ]
  refine wpAnyH_done (by kernel_rfl) ?_ _
  go_wp2_with fail
  obtain ⟨e1, e2, uA, uB, hup8⟩ := HEnd.out
  refine bodyPost_ret (results_4cells rfl _ _ (w.heap.size + 1) (w.heap.size + 1 + 1) _ _ _ _ _ _ rfl (drew_row e1) rfl (drew_row e2) Tryz.underlying50 rfl (by kernel_rfl) (by kernel_rfl)) rfl ?_
  have hsz := HX1.out.1
  have hu06 : Upd (fun _ => False) w w6 := HB.out.2.2.2.2.1.trans' (by have h := HB2.out.1; rw [HB.out.1] at h; exact h) fun j hj => by
    right
    rcases hj with h | h
    · have := HB.out.2.2.2.2.2; omega
    · have := HB.out.2.1 j h; omega
  have hu08 : Upd (fun _ => False) w w8 := (hu06.alloc (.cells (stCk false v1) 50)).trans' (by have h := hup8; rw [HB2.out.2.2.2.2.2] at h; exact h) fun j hj => by
    right
    rcases hj with h | h
    · have := HB.out.2.2.2.2.2; omega
    · rcases HB2.out.2.2.2.2.1 j h with h | h
      · have := HB.out.2.1 j h; omega
      · have h1 := HB.out.2.2.2.2.1.size
        rw [HB.out.1] at h
        omega
  have hend : Upd (fun _ => False) w (((((((((((((((((((((((((w8.alloc (.cells (stCk false v1) 50)).setCell ⟨w.heap.size + 1, 0, none⟩ (.bool v1.mi)).setCell ⟨w.heap.size + 1, 1, none⟩ (.bool v1.si)).setCell ⟨w.heap.size + 1, 2, none⟩ (.bool false)).setCell ⟨w.heap.size + 1, 3, none⟩ (.bool v1.fl)).setCell ⟨w.heap.size + 1, 4, none⟩ (.bool v1.mn)).setCell ⟨w.heap.size + 1, 5, none⟩ (.bool v1.wn)).setCell ⟨w.heap.size + 1, 6, none⟩ (.bool v1.sm)).setCell ⟨w.heap.size + 1, 7, none⟩ (.int .u64 (v1.k : Int))).setCell ⟨w.heap.size + 1, 8, none⟩ (.int .u64 (v1.ln : Int))).setCell ⟨w.heap.size + 1, 9, none⟩ (.int .u64 (v1.lv : Int))).setCell ⟨w.heap.size + 1, 10, none⟩ (.int .u8 (v1.ws : Int))).setCell ⟨w.heap.size + 1, 11, none⟩ (.int .i64 0)).setCell ⟨w.heap.size + 1 + 1, 0, none⟩ (.bool v1.mi)).setCell ⟨w.heap.size + 1 + 1, 1, none⟩ (.bool v1.si)).setCell ⟨w.heap.size + 1 + 1, 2, none⟩ (.bool false)).setCell ⟨w.heap.size + 1 + 1, 3, none⟩ (.bool v1.fl)).setCell ⟨w.heap.size + 1 + 1, 4, none⟩ (.bool v1.mn)).setCell ⟨w.heap.size + 1 + 1, 5, none⟩ (.bool v1.wn)).setCell ⟨w.heap.size + 1 + 1, 6, none⟩ (.bool v1.sm)).setCell ⟨w.heap.size + 1 + 1, 7, none⟩ (.int .u64 (v1.k : Int))).setCell ⟨w.heap.size + 1 + 1, 8, none⟩ (.int .u64 (v1.ln : Int))).setCell ⟨w.heap.size + 1 + 1, 9, none⟩ (.int .u64 (v1.lv : Int))).setCell ⟨w.heap.size + 1 + 1, 10, none⟩ (.int .u8 (v1.ws : Int))).setCell ⟨w.heap.size + 1 + 1, 11, none⟩ (.int .i64 0)) := ((hu08.alloc (.cells (stCk false v1) 50)).trans' uA fun j hj => .inr (by omega)).trans' uB fun j hj => .inr (by omega)
  refine ⟨⟨tx.toArray⟩, v1, rfl, hend.drew, HL.out.2.2.2.2.1.1, HL.out.2.2.2.2.1.2.1, HL.out.2.2.2.2.1.2.2, ?_⟩
  have h1 := HL.out.2.2.2.2.2
  have h2 := HL.out.2.2.1
  show tx.toArray.size ≤ _
  rw [List.size_toArray]
  try simp only at h1
  omega
end Go.Proofs.YtmdkpihlhdjjaaaGreatFmt
