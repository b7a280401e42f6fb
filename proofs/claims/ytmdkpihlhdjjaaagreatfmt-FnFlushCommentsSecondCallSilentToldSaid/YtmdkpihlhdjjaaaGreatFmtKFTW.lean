/-
  n010_157.FnFlushCommentsSecondCallSilent: the walk.
-/
import Derived.Test.YtmdkpihlhdjjaaaGreatFmtKFTV
import Derived.Test.YtmdkpihlhdjjaaaGreatFmtKTfN
import Derived.Test.YtmdkpihlhdjjaaaGreatFmtKTfC
import Derived.Laws.StructEq
namespace Go.Proofs.YtmdkpihlhdjjaaaGreatFmt
open Go.RowKit

theorem count_take_succ {l : List UInt8} {j : Nat} (hj : j < l.length) (c : UInt8) : (l.take (j + 1)).count c = (l.take j).count c + (if l[j] = c then 1 else 0) := by
  rw [List.take_succ_eq_append_getElem hj, List.count_append, List.count_singleton]
  simp only [beq_iff_eq]
theorem zip_fst_take {L : List Nat} {Tx : List ByteArray} {i : Nat} (h1 : i < L.length) (h2 : i < Tx.length) : (L[i], Tx[i]) ∈ L.zip Tx := by
  have h : i < (L.zip Tx).length := by rw [List.length_zip]; omega
  have e : (L.zip Tx)[i] = (L[i], Tx[i]) := List.getElem_zip
  rw [← e]
  exact List.getElem_mem h
theorem ft_cs {L : List Nat} {Tx : List ByteArray} {k lv : Nat} (h : FtOk L Tx k lv) (hs : ∀ t ∈ Tx, t.size ≤ 1048576) : ∀ c ∈ L.zip Tx, c.1 ≤ 262143 ∧ c.2.size ≤ 1048576 := fun c hc => by
  obtain ⟨i, hi, rfl⟩ := List.mem_iff_getElem.1 hc
  rw [List.length_zip] at hi
  rw [List.getElem_zip]
  refine ⟨h.2.2.2 _ ?_, hs _ (List.getElem_mem _)⟩
  rw [List.mem_iff_getElem]
  exact ⟨i, by rw [List.length_take]; omega, List.getElem_take⟩

set_option maxRecDepth 100000 in
set_option maxHeartbeats 2000000 in
/-- Two equal states are not unequal. -/
theorem st_neq (kp : Bool) (v : VS) (w : World) : (binOp .neq 50 (stVk kp v) (stVk kp v)).run Tryz.prog w = .ok (.bool false) w := by
  rw [run_neq_struct, run_equalIn_struct w 9999 _ _ _ (by kernel_rfl) (by kernel_rfl)]
  have hf : (Tryz.prog.fieldsOf 50).toList.map (fun f => (f.type, f.offset, decide (f.name = "_"))) = [(4, 0, false), (4, 1, false), (4, 2, false), (4, 3, false), (4, 4, false), (4, 5, false), (4, 6, false), (22, 7, false), (22, 8, false), (22, 9, false), (5, 10, false), (3, 11, false)] := by kernel_rfl
  generalize (Tryz.prog.fieldsOf 50).toList = fs at hf
  rcases fs with _ | ⟨a0, fs⟩
  · simp at hf
  rcases fs with _ | ⟨a1, fs⟩
  · simp at hf
  rcases fs with _ | ⟨a2, fs⟩
  · simp at hf
  rcases fs with _ | ⟨a3, fs⟩
  · simp at hf
  rcases fs with _ | ⟨a4, fs⟩
  · simp at hf
  rcases fs with _ | ⟨a5, fs⟩
  · simp at hf
  rcases fs with _ | ⟨a6, fs⟩
  · simp at hf
  rcases fs with _ | ⟨a7, fs⟩
  · simp at hf
  rcases fs with _ | ⟨a8, fs⟩
  · simp at hf
  rcases fs with _ | ⟨a9, fs⟩
  · simp at hf
  rcases fs with _ | ⟨a10, fs⟩
  · simp at hf
  rcases fs with _ | ⟨a11, fs⟩
  · simp at hf
  rcases fs with _ | ⟨a12, fs⟩
  rotate_left
  · simp at hf
  simp only [List.map_cons, List.map_nil, List.cons.injEq, Prod.mk.injEq, decide_eq_false_iff_not, and_true] at hf
  obtain ⟨⟨t0, o0, n0⟩, ⟨t1, o1, n1⟩, ⟨t2, o2, n2⟩, ⟨t3, o3, n3⟩, ⟨t4, o4, n4⟩, ⟨t5, o5, n5⟩, ⟨t6, o6, n6⟩, ⟨t7, o7, n7⟩, ⟨t8, o8, n8⟩, ⟨t9, o9, n9⟩, ⟨t10, o10, n10⟩, ⟨t11, o11, n11⟩⟩ := hf
  simp [Op.eqFields, t0, o0, n0, t1, o1, n1, t2, o2, n2, t3, o3, n3, t4, o4, n4, t5, o5, n5, t6, o6, n6, t7, o7, n7, t8, o8, n8, t9, o9, n9, t10, o10, n10, t11, o11, n11, go_sem]

set_option maxRecDepth 100000 in
set_option maxHeartbeats 32000000 in
theorem ft_main (x0 : Value) (L : List Nat) (x1 : Value) (Tx : List ByteArray) (mi si kp fl mn wn : Bool) (k8 k9 k10 k11 : Nat) (w : World) (hL : UintsRd w x0 L) (hm1 : L.length ≤ maxLen) (hT : StrsRd w x1 Tx) (hm2 : Tx.length ≤ maxLen)
    (hTb : Lib.Utf8Tabs 2 3 w) (hWh : Lib.WhiteTab 0 w) :
    Calls Tryz.prog 4 #[x0, x1, .bool mi, .bool si, .bool kp, .bool fl, .bool mn, .bool wn, .int .u8 (k8 : Int), .int .u64 (k9 : Int), .int .u64 (k10 : Int), .int .u64 (k11 : Int)] w fun e w' => e = .returned (.bool true) ∧ Below w.heap.size w w' := by
  have hzb := ft_zb hL hT hm1 hm2 (.bool mi) (.bool si) (.bool kp) (.bool fl) (.bool mn) (.bool wn) (.int .u8 (k8 : Int)) (.int .u64 (k9 : Int)) (.int .u64 (k10 : Int)) (.int .u64 (k11 : Int))
  obtain ⟨v, hv⟩ : ∃ v, v = stVS mi si fl mn wn false k8 k9 k10 k11 := ⟨_, rfl⟩
  have hst := fun W => zz_stateK kp v mi si fl mn wn false k8 k9 k10 k11 hv W
  have hve : v = stVS v.mi v.si v.fl v.mn v.wn v.sm v.ws v.k v.lv v.ln := by rw [hv]; rfl
  have hvl : v.ln = k11 := by rw [hv]; rfl
  have hbad := fun (h1 : L.length ≤ 1048576) (h2 : Tx.length ≤ 1048576) (hs : ∀ t ∈ Tx, t.size ≤ 1048576) => ft_bad hL hT h1 h2 hs k9 k10
  have htw : ∀ (hok : FtOk L Tx k9 k10) (hln : k11 ≤ 1048576) (hs : ∀ t ∈ Tx, t.size ≤ 1048576) (W : World) (lv tv : Value), Upd (fun _ => False) w W → UintsRd W lv L → StrsRd W tv Tx →
      Calls Tryz.prog 18 #[stVk kp v, lv, tv] W fun e w' => ∃ (o1 : ByteArray) (v1 : VS), e = .returned (.tuple #[.string o1, stVk kp v1, .string ⟨#[]⟩, stVk kp v1]) ∧ Upd (fun _ => False) W w' ∧ (L.zip Tx).length ≤ o1.data.toList.count 35 ∧ v.ln ≤ v1.ln ∧ (∀ c ∈ L.zip Tx, c.1 ≤ v1.ln) ∧ o1.size ≤ 5000000000 := by
    intro hok hln hs W lv tv hu h1 h2
    have hvb : v.Bd := by rw [hv]; exact ⟨hok.2.2.1.2.2, Nat.le_trans hok.2.2.1.2.1 (by decide), Nat.le_trans hln (by decide)⟩
    have hTr : ∀ W', Below W.heap.size W W' → ∀ t : ByteArray, t.size ≤ 1048576 → Calls Tryz.prog 121 #[.string t, .func (.func 122) #[] #[]] W' fun e w' => e = .returned (.string (trimB t)) ∧ Upd (fun _ => False) W' w' := fun W' hB t ht =>
      trim_ok hTb hWh W' ((hu.below (fun k h => h.elim) (Nat.le_refl _)).trans (hB.mono hu.size)) t ht
    cases kp
    · exact n_twice v hve hvb rfl h1 h2 hok.1 hok.2.1 (ft_cs hok hs) hTr
    · exact c_twice v hve hvb rfl h1 h2 hok.1 hok.2.1 (ft_cs hok hs) hTr
  have HBad := Lib.hid hbad
  have HSt := Lib.hid hst
  have HTw := Lib.hid htw
  have HVl := Lib.hid hvl
  have HLT := Lib.hid (And.intro hL hT)
  clear hbad hst htw hvl hve hv hm1 hm2 hTb hWh hL hT
  go_enter Tryz.func4, Tryz.ntmps4
  go_wp2_with fail
  refine hzb.mono ?_
  rintro e w1 ⟨r, rfl, rfl, hr⟩
  cases r
  · clear hr
    go_wp2_with fail
    go_ret
    exact ⟨rfl, Below.refl _ _⟩
  obtain ⟨hn1, hn2, hsz⟩ := hr rfl
  have hbad := HBad.out hn1 hn2 hsz
  have HSz := Lib.hid hsz
  clear hn1 hn2 hsz hr HBad
  go_wp2_with fail
  refine hbad.mono ?_
  rintro e w1 ⟨r, rfl, rfl, hr⟩
  clear hbad
  cases r
  rotate_left
  · clear hr
    go_wp2_with fail
    go_ret
    exact ⟨rfl, Below.refl _ _⟩
  have hok := hr rfl
  clear hr
  have hcu := cp_uints157 HLT.out.1 (show L.length ≤ 1048576 by have := hok.1; omega)
  have hl1I : (L.length : Int) ≤ 4096 := by have := hok.1; omega
  have hl2I : (Tx.length : Int) ≤ 4096 := by have := hok.2.1; omega
  have HOk := Lib.hid hok
  clear hok
  by_cases h8 : 2 < k8
  · have hI : (2 : Int) < (k8 : Int) := by omega
    clear h8 hcu
    go_wp2_with fail
    go_ret
    exact ⟨rfl, Below.refl _ _⟩
  have h8I : (k8 : Int) ≤ 2 := by omega
  by_cases h11 : 1048576 < k11
  · have hI : (1048576 : Int) < (k11 : Int) := by omega
    clear h8 h11 hcu
    go_wp2_with fail
    go_ret
    exact ⟨rfl, Below.refl _ _⟩
  have h11I : (k11 : Int) ≤ 1048576 := by omega
  have HLn := Lib.hid (show k11 ≤ 1048576 by omega)
  clear h8 h11
  go_wp2_with fail
  refine hcu.mono ?_
  rintro e w1 ⟨lv', rfl, hl', hu1⟩
  clear hcu
  obtain ⟨ao, c, rfl, hcl⟩ := hl'.form
  have hcs := cp_strs157 (HLT.out.2.quiet hu1) (show Tx.length ≤ 1048576 by have := HOk.out.2.1; omega)
  have H1 := Lib.hid (And.intro hl' (And.intro hcl hu1))
  clear hl' hcl hu1
  go_wp2_with fail
  refine hcs.mono ?_
  rintro e w2 ⟨tv', rfl, ht', hu2⟩
  clear hcs
  obtain ⟨bo, d, rfl, _⟩ := ht'.form
  have H2 := Lib.hid (And.intro ht' hu2)
  clear ht' hu2
  obtain ⟨q, hq⟩ : ∃ q, q = min L.length Tx.length := ⟨_, rfl⟩
  have hcnt := fun W => fc_count ao bo L.length c Tx.length d W
  rw [← hq] at hcnt
  have hqI : (q : Int) ≤ 4096 := by omega
  have hne := fun v1 W => st_neq kp v1 W
  have HCnt := Lib.hid hcnt
  have HQ := Lib.hid hq
  clear hcnt hq
  go_wp2_with (first
    | (go_at_call 17; refine (HSt.out _).mono ?_; rintro e w3 ⟨rfl, hu3⟩; have HU3 := Lib.hid hu3; clear hu3 HSt)
    | (go_at_call 18
       refine (HTw.out HOk.out HLn.out HSz.out _ _ _ ((H1.out.2.2.trans H2.out.2).trans (HU3.out.alloc _)) ((H1.out.1.quiet H2.out.2).quiet (HU3.out.alloc _)) (H2.out.1.quiet (HU3.out.alloc _))).mono ?_
       rintro e w4 ⟨o1, v1, rfl, hu4, hg1, hg2, hg3, hg4⟩
       have hlnI : (k11 : Int) ≤ (v1.ln : Int) := by rw [HVl.out] at hg2; omega
       have HT4 := Lib.hid (And.intro hu4 (And.intro hg1 (And.intro hg3 hg4)))
       clear hu4 hg1 hg2 hg3 hg4 HTw)
    | (go_at_call 19; refine (HCnt.out _).mono ?_; rintro e w5 ⟨rfl, rfl⟩))
  have hu24 : Upd (fun _ => False) w2 w4 := (HU3.out.alloc _).trans HT4.out.1
  have HU24 := Lib.hid hu24
  have ho1 : (o1.size : Int) ≤ 5000000000 := by have := HT4.out.2.2.2; omega
  have hqh : q ≤ o1.data.toList.count 35 := by
    have h1 := HT4.out.2.1
    rw [List.length_zip] at h1
    have := HQ.out
    omega
  have HQh := Lib.hid hqh
  clear hu24 hqh
  go_loopg [31, 32] (o1.size) (fun k v31 v32 wr => ∃ i h : Nat, v31 = .int .i64 (h : Int) ∧ v32 = .int .i64 (i : Int) ∧ i + k = o1.size ∧ h = (o1.data.toList.take i).count 35 ∧ Upd (fun _ => False) w4 wr ∧ wr.heap[w4.heap.size]? = some (.cells (stCk kp v1) 50 (0, 0)))
  case atStart =>
    refine ⟨0, 0, rfl, rfl, by omega, by simp, ((Upd.refl _ w4).alloc _).alloc _, ?_⟩
    exact heap_alloc2_old w4 _ _
  case round =>
  obtain ⟨i, h, rfl, rfl, hik, hh, hur, hrow⟩ := hrel
  have hhs : h ≤ o1.size := by
    rw [hh]
    refine Nat.le_trans List.count_le_length ?_
    rw [List.length_take]
    have : o1.data.toList.length = o1.size := rfl
    omega
  have hhI : (h : Int) ≤ 5000000000 := by omega
  have HI := Lib.hid (And.intro hik (And.intro hh (And.intro hur hrow)))
  clear hik hh hur hrow hhs
  by_cases hlt : i < o1.size
  · have hltI : (i : Int) < (o1.size : Int) := by omega
    obtain ⟨ch, hc⟩ : ∃ ch, o1[i]'hlt = ch := ⟨_, rfl⟩
    have hcl : o1.data.toList[i]'hlt = ch := hc
    by_cases h35 : ch = 35
    · have HB : RowKit.Hid (h + 1 = (o1.data.toList.take (i + 1)).count 35) := Lib.hid (by
        rw [count_take_succ hlt, hcl, if_pos h35, ← HI.out.2.1])
      have h35I : (ch.toNat : Int) = 35 := by rw [h35]; rfl
      clear hcl h35
      go_wp2_with fail
      go_roundg (o1.size - (i + 1))
      case measure => have := HI.out.1; omega
      case rel => exact ⟨i + 1, h + 1, by go_num, by go_num, by have := HI.out.1; omega, HB.out, HI.out.2.2.1, HI.out.2.2.2⟩
    · have HB : RowKit.Hid (h = (o1.data.toList.take (i + 1)).count 35) := Lib.hid (by
        rw [count_take_succ hlt, hcl, if_neg h35, ← HI.out.2.1]; rfl)
      have h35I : ((ch.toNat : Int) == 35) = false := ne_int (d := 35) h35
      clear hcl h35
      go_wp2_with fail
      go_roundg (o1.size - (i + 1))
      case measure => have := HI.out.1; omega
      case rel => exact ⟨i + 1, h, rfl, by go_num, by have := HI.out.1; omega, HB.out, HI.out.2.2.1, HI.out.2.2.2⟩
  obtain rfl : i = o1.size := by have := HI.out.1; omega
  have hge : q ≤ h := by
    have h1 := HI.out.2.1
    rw [show o1.size = o1.data.toList.length from rfl, List.take_length] at h1
    rw [h1]
    exact HQh.out
  have hgeI : (q : Int) ≤ (h : Int) := by omega
  have H5 := Lib.hid HI.out.2.2
  clear hlt hge HI
  go_wp2_with fail
  go_loopg [33] q (fun k v33 wr => ∃ i : Nat, v33 = .int .i64 (i : Int) ∧ i + k = q ∧ Upd (fun _ => False) w4 wr ∧ wr.heap[w4.heap.size]? = some (.cells (stCk kp v1) 50 (0, 0)))
  case atStart => exact ⟨0, rfl, by omega, H5.out⟩
  case round =>
  obtain ⟨i, rfl, hik, hur, hrow⟩ := hrel
  have HI := Lib.hid (And.intro hik (And.intro hur hrow))
  by_cases hlt : i < q
  · have hltI : (i : Int) < (q : Int) := by omega
    have hi1 : i < L.length := by have := HQ.out; omega
    have hi2 : i < Tx.length := by have := HQ.out; omega
    have hi1I : (i : Int) < (L.length : Int) := by omega
    obtain ⟨b, hb⟩ : ∃ b, L[i]'hi1 = b := ⟨_, rfl⟩
    have hbl : b ≤ v1.ln := by
      have h1 := HT4.out.2.2.1 _ (zip_fst_take hi1 hi2)
      simp only [hb] at h1
      exact h1
    have hblI : (b : Int) ≤ (v1.ln : Int) := by omega
    obtain ⟨a, rfl, c0⟩ := H1.out.2.1 i b (by rw [List.getElem?_eq_getElem hi1, hb])
    have c1 : wr.cell? (a.add i) = some (.int .u64 (b : Int)) := hur.cell (HU24.out.cell (H2.out.2.cell c0 fun h => h) fun h => h) fun h => h
    have c8 : wr.cell? ⟨w4.heap.size, 8, none⟩ = some (.int .u64 (v1.ln : Int)) := cell_at hrow 8
    clear hik hur hrow hb hbl hlt hi2 c0
    go_wp2_with fail
    refine wp_region_held_drew (S := fun W => W.cell? ⟨w4.heap.size, 8, none⟩ = some (.int .u64 (v1.ln : Int)) ∧ W.cell? (a.add i) = some (.int .u64 (b : Int))) (by kernel_rfl) ⟨c8, c1⟩ (fun hHeld => ?_)
    refine wpAnyH_take (i := 0) (v := ?vq0) rfl (by kernel_rfl) (by kernel_rfl) (by kernel_rfl) (fun _ _ _ h => h) (Or.inl ⟨by rfl, ?hq0⟩) (by assumption) ?rq0
    case hq0 => (intro w hSw; (try dsimp only at hSw); go_simp; try with_reducible rfl)
    try simp only [List.getElem_toArray, List.getElem_cons_zero, Act.put, List.setIfInBounds_toArray, List.set_cons_zero, List.set_cons_succ]
    refine wpAnyH_take (i := 1) (v := ?vq1) rfl (by kernel_rfl) (by kernel_rfl) (by kernel_rfl) (fun _ _ _ h => h) (Or.inl ⟨by rfl, ?hq1⟩) (by assumption) ?rq1
    case hq1 => (intro w hSw; (try dsimp only at hSw); go_simp; try with_reducible rfl)
    try simp only [List.getElem_toArray, List.getElem_cons_zero, List.getElem_cons_succ, Act.put, List.setIfInBounds_toArray, List.set_cons_zero, List.set_cons_succ]
    refine wpAnyH_take (i := 2) (v := ?vq2) rfl (by kernel_rfl) (by kernel_rfl) (by kernel_rfl) (fun _ _ _ h => h) (Or.inl ⟨by rfl, ?hq2⟩) (by assumption) ?rq2
    case hq2 => (intro w hSw; (try dsimp only at hSw); go_simp; try with_reducible rfl)
    try simp only [List.getElem_toArray, List.getElem_cons_zero, List.getElem_cons_succ, Act.put, List.setIfInBounds_toArray, List.set_cons_zero, List.set_cons_succ]
    refine wpAnyH_take (i := 3) (v := ?vq3) rfl (by kernel_rfl) (by kernel_rfl) (by kernel_rfl) (fun _ _ _ h => h) (Or.inl ⟨by rfl, ?hq3⟩) (by assumption) ?rq3
    case hq3 => (intro w hSw; (try dsimp only at hSw); go_simp; try with_reducible rfl)
    try simp only [List.getElem_toArray, List.getElem_cons_zero, List.getElem_cons_succ, Act.put, List.setIfInBounds_toArray, List.set_cons_zero, List.set_cons_succ]
    refine wpAnyH_take (i := 4) (v := ?vq4) rfl (by kernel_rfl) (by kernel_rfl) (by kernel_rfl) (fun _ _ _ h => h) (Or.inl ⟨by rfl, ?hq4⟩) (by assumption) ?rq4
    case hq4 => (intro w hSw; (try dsimp only at hSw); go_simp; try with_reducible rfl)
    try simp only [List.getElem_toArray, List.getElem_cons_zero, List.getElem_cons_succ, Act.put, List.setIfInBounds_toArray, List.set_cons_zero, List.set_cons_succ]
    refine wpAnyH_take (i := 5) (v := ?vq5) rfl (by kernel_rfl) (by kernel_rfl) (by kernel_rfl) (fun _ _ _ h => h) (Or.inl ⟨by rfl, ?hq5⟩) (by assumption) ?rq5
    case hq5 => (intro w hSw; (try dsimp only at hSw); go_simp; try with_reducible rfl)
    try simp only [List.getElem_toArray, List.getElem_cons_zero, List.getElem_cons_succ, Act.put, List.setIfInBounds_toArray, List.set_cons_zero, List.set_cons_succ]
    refine wpAnyH_take (i := 6) (v := ?vq6) rfl (by kernel_rfl) (by kernel_rfl) (by kernel_rfl) (fun _ _ _ h => h) (Or.inl ⟨by rfl, ?hq6⟩) (by assumption) ?rq6
    case hq6 => (intro w hSw; (try dsimp only at hSw); go_simp; try with_reducible rfl)
    try simp only [List.getElem_toArray, List.getElem_cons_zero, List.getElem_cons_succ, Act.put, List.setIfInBounds_toArray, List.set_cons_zero, List.set_cons_succ]
    refine wpAnyH_done (by kernel_rfl) ?_ _
    go_wp2_with fail
    go_roundg (q - (i + 1))
    case measure => have := HI.out.1; omega
    case rel => exact ⟨i + 1, by go_num, by have := HI.out.1; omega, HI.out.2.1.drew, HI.out.2.2⟩
  · obtain rfl : i = q := by have := HI.out.1; omega
    clear hik hur hrow hlt
    go_wp2_with fail
    go_ret
    exact ⟨rfl, ((((H1.out.2.2.trans H2.out.2).trans HU24.out).trans HI.out.2.1)).below (fun k h => h.elim) (Nat.le_refl _)⟩
end Go.Proofs.YtmdkpihlhdjjaaaGreatFmt
