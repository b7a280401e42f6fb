/-
  n010_157.FnFlushCommentsLayout: the walk.
-/
import Derived.Test.YtmdkpihlhdjjaaaGreatFmtKGrX
import Derived.Test.YtmdkpihlhdjjaaaGreatFmtKFxAX
import Derived.Test.YtmdkpihlhdjjaaaGreatFmtKFt
import Derived.Test.YtmdkpihlhdjjaaaGreatFmtKFo
import Derived.Test.YtmdkpihlhdjjaaaGreatFmtKCpX
import Derived.Test.YtmdkpihlhdjjaaaGreatFmtKFTV
import Derived.Deep.CutBlock
import Derived.Deep.DeepCutAuto
import Derived.Laws.StructEq
namespace Go.Proofs.YtmdkpihlhdjjaaaGreatFmt
open Go.RowKit

theorem fl_cs {L : List Nat} {Tx : List ByteArray} {k lv : Nat} (h : FtOk L Tx k lv) (hs : ∀ t ∈ Tx, t.size ≤ 1048576) : ∀ c ∈ L.zip Tx, c.1 ≤ 262143 ∧ c.2.size ≤ 1048576 := fun c hc => by
  obtain ⟨i, hi, rfl⟩ := List.mem_iff_getElem.1 hc
  rw [List.length_zip] at hi
  rw [List.getElem_zip]
  refine ⟨h.2.2.2 _ ?_, hs _ (List.getElem_mem _)⟩
  rw [List.mem_iff_getElem]
  exact ⟨i, by rw [List.length_take]; omega, List.getElem_take⟩
theorem fl_next {L : List Nat} {Tx : List ByteArray} {v vi : VS} {i : Nat} {ti : List UInt8} {cli : Bool} (h : fcAll false false v 0 ((L.zip Tx).take i) = (ti, vi, cli)) (h1 : i < L.length) (h2 : i < Tx.length) :
    fcAll false false v 0 ((L.zip Tx).take (i + 1)) = (ti ++ fcT false cli vi i L[i] (trimB Tx[i]).data.toList, fcS false cli vi i L[i], clOf false cli (fcT false cli vi i L[i] (trimB Tx[i]).data.toList)) := by
  have hz : i < (L.zip Tx).length := by rw [List.length_zip]; omega
  have h3 := fcAll_snoc false (L[i], Tx[i]) _ _ _ _ _ _ _ h
  have h4 : ((L.zip Tx).take i).length = i := by rw [List.length_take]; omega
  rw [h4, Nat.zero_add] at h3
  rw [List.take_succ_eq_append_getElem hz, List.getElem_zip]
  exact h3

set_option maxRecDepth 100000 in
set_option maxHeartbeats 32000000 in
theorem fl_main (x0 : Value) (L : List Nat) (x1 : Value) (Tx : List ByteArray) (mi fl mn : Bool) (k8 k9 k10 k11 : Nat) (w : World) (hL : UintsRd w x0 L) (hm1 : L.length ≤ maxLen) (hT : StrsRd w x1 Tx) (hm2 : Tx.length ≤ maxLen)
    (hTb : Lib.Utf8Tabs 2 3 w) (hWh : Lib.WhiteTab 0 w) :
    Calls Tryz.prog 5 #[x0, x1, .bool mi, .bool fl, .bool mn, .int .u8 (k8 : Int), .int .u64 (k9 : Int), .int .u64 (k10 : Int), .int .u64 (k11 : Int)] w fun e w' => e = .returned (.bool true) ∧ Below w.heap.size w w' := by
  have hzb := fl_zb hL hT hm1 hm2 (.bool mi) (.bool fl) (.bool mn) (.int .u8 (k8 : Int)) (.int .u64 (k9 : Int)) (.int .u64 (k10 : Int)) (.int .u64 (k11 : Int))
  obtain ⟨v, hv⟩ : ∃ v, v = stVS mi false fl mn false false k8 k9 k10 k11 := ⟨_, rfl⟩
  have hst := fun W => zz_stateK false v mi false fl mn false false k8 k9 k10 k11 hv W
  have hve : v = stVS v.mi v.si v.fl v.mn v.wn v.sm v.ws v.k v.lv v.ln := by rw [hv]; rfl
  have hvl : v.ln = k11 ∧ v.ws = k8 ∧ v.mn = mn ∧ v.wn = false ∧ v.fl = fl ∧ pIndent mi k9 k10 = mIndent v := by rw [hv]; exact ⟨rfl, rfl, rfl, rfl, rfl, pIndent_eq (stVS mi false fl mn false false k8 k9 k10 k11)⟩
  obtain ⟨tx, v1, cl1, hallT⟩ : ∃ tx v1 cl1, fcAll false false v 0 (L.zip Tx) = (tx, v1, cl1) := ⟨_, _, _, rfl⟩
  have hbad := fun (h1 : L.length ≤ 1048576) (h2 : Tx.length ≤ 1048576) (hs : ∀ t ∈ Tx, t.size ≤ 1048576) => ft_bad hL hT h1 h2 hs k9 k10
  have hvb : ∀ (_ : FtOk L Tx k9 k10) (_ : k11 ≤ 1048576), v.Bd := fun hok hln => by rw [hv]; exact ⟨hok.2.2.1.2.2, Nat.le_trans hok.2.2.1.2.1 (by decide), Nat.le_trans hln (by decide)⟩
  have htw : ∀ (hok : FtOk L Tx k9 k10) (hln : k11 ≤ 1048576) (hs : ∀ t ∈ Tx, t.size ≤ 1048576) (W : World) (lv tv : Value), Upd (fun _ => False) w W → UintsRd W lv L → StrsRd W tv Tx →
      Calls Tryz.prog 21 #[stVk false v, lv, tv] W fun e w' => e = .returned (.tuple #[.string ⟨tx.toArray⟩, stVk false v1]) ∧ Upd (fun _ => False) W w' := by
    intro hok hln hs W lv tv hu h1 h2
    have hTr : ∀ W', Below W.heap.size W W' → ∀ t : ByteArray, t.size ≤ 1048576 → Calls Tryz.prog 121 #[.string t, .func (.func 122) #[] #[]] W' fun e w' => e = .returned (.string (trimB t)) ∧ Upd (fun _ => False) W' w' := fun W' hB t ht =>
      trim_ok hTb hWh W' ((hu.below (fun k h => h.elim) (Nat.le_refl _)).trans (hB.mono hu.size)) t ht
    exact n_one v hve (hvb hok hln) rfl h1 h2 hok.1 hok.2.1 (fl_cs hok hs) hTr hallT
  have HVb := Lib.hid hvb
  have HBad := Lib.hid hbad
  have HSt := Lib.hid hst
  have HTw := Lib.hid htw
  have HV := Lib.hid hvl
  have HAll := Lib.hid hallT
  have HLT := Lib.hid (And.intro hL hT)
  clear hbad hst htw hvl hve hv hm1 hm2 hTb hWh hL hT hvb hallT
  go_enter Tryz.func5, Tryz.ntmps5
  go_wp2_with fail
  refine hzb.mono ?_
  rintro e w1 ⟨r, rfl, rfl, hr⟩
  cases r
  · clear hr
    go_wp2_with fail
    go_ret
    exact ⟨rfl, Below.refl _ _⟩
  obtain ⟨hn1, hn2, hsz⟩ := hr rfl
  have hbad := HBad.out hn1 hn2 hsz
  have HSz := Lib.hid hsz
  clear hn1 hn2 hsz hr HBad
  go_wp2_with fail
  refine hbad.mono ?_
  rintro e w1 ⟨r, rfl, rfl, hr⟩
  clear hbad
  cases r
  rotate_left
  · clear hr
    go_wp2_with fail
    go_ret
    exact ⟨rfl, Below.refl _ _⟩
  have hok := hr rfl
  clear hr
  have hcu := cp_uints157 HLT.out.1 (show L.length ≤ 1048576 by have := hok.1; omega)
  have hl1I : (L.length : Int) ≤ 4096 := by have := hok.1; omega
  have hl2I : (Tx.length : Int) ≤ 4096 := by have := hok.2.1; omega
  have HOk := Lib.hid hok
  clear hok
  by_cases h8 : 2 < k8
  · have hI : (2 : Int) < (k8 : Int) := by omega
    clear h8 hcu
    go_wp2_with fail
    go_ret
    exact ⟨rfl, Below.refl _ _⟩
  have h8I : (k8 : Int) ≤ 2 := by omega
  by_cases h11 : 1048576 < k11
  · have hI : (1048576 : Int) < (k11 : Int) := by omega
    clear h8 h11 hcu
    go_wp2_with fail
    go_ret
    exact ⟨rfl, Below.refl _ _⟩
  have h11I : (k11 : Int) ≤ 1048576 := by omega
  have HLn := Lib.hid (show k11 ≤ 1048576 ∧ k8 ≤ 2 by omega)
  clear h8 h11
  go_wp2_with fail
  refine hcu.mono ?_
  rintro e w1 ⟨lv', rfl, hl', hu1⟩
  clear hcu
  obtain ⟨ao, c, rfl, hcl⟩ := hl'.form
  have hcs := cp_strs157 (HLT.out.2.quiet hu1) (show Tx.length ≤ 1048576 by have := HOk.out.2.1; omega)
  have H1 := Lib.hid (And.intro hl' (And.intro hcl hu1))
  clear hl' hcl hu1
  go_wp2_with fail
  refine hcs.mono ?_
  rintro e w2 ⟨tv', rfl, ht', hu2⟩
  clear hcs
  obtain ⟨bo, d, rfl, hbd⟩ := ht'.form
  have H2 := Lib.hid (And.intro ht' (And.intro hu2 hbd))
  clear ht' hu2 hbd
  obtain ⟨q, hq⟩ : ∃ q, q = min L.length Tx.length := ⟨_, rfl⟩
  have hcnt := fun W => fc_count ao bo L.length c Tx.length d W
  rw [← hq] at hcnt
  have hqI : (q : Int) ≤ 4096 := by omega
  have HCnt := Lib.hid hcnt
  have HQ := Lib.hid hq
  obtain ⟨o1, ho1⟩ : ∃ o1 : ByteArray, o1 = ⟨tx.toArray⟩ := ⟨_, rfl⟩
  rw [← ho1] at HTw
  have HO1 := Lib.hid ho1
  clear hcnt hq ho1
  go_upto_block 0 with (first
    | (go_at_call 17; refine (HSt.out _).mono ?_; rintro e w3 ⟨rfl, hu3⟩; have HU3 := Lib.hid hu3; clear hu3 HSt)
    | (go_at_call 21
       refine (HTw.out HOk.out HLn.out.1 HSz.out _ _ _ ((H1.out.2.2.trans H2.out.2.1).trans (HU3.out.alloc _)) ((H1.out.1.quiet H2.out.2.1).quiet (HU3.out.alloc _)) (H2.out.1.quiet (HU3.out.alloc _))).mono ?_
       rintro e w4 ⟨rfl, hu4⟩
       have HT4 := Lib.hid hu4
       clear hu4 HTw)
    | (go_at_call 19; refine (HCnt.out _).mono ?_; rintro e w5 ⟨rfl, rfl⟩))
  have hu24 : Upd (fun _ => False) w2 w4 := (HU3.out.alloc _).trans HT4.out
  have HU24 := Lib.hid hu24
  have HB0 := Lib.hid (RowB.nil (w4.alloc (.cells (stCk false v1) 50)))
  clear hu24
  go_wp2_with fail
  go_loopg [23, 24, 25, 26] q (fun k v23 v24 v25 v26 wr => ∃ (i : Nat) (ti : List UInt8) (vi : VS) (cli : Bool) (vb : Value), vb = v23 ∧ v24 = .int .u64 (vi.ln : Int) ∧ v25 = .bool vi.mn ∧ v26 = .int .i64 (i : Int) ∧ i + k = q ∧ fcAll false false v 0 ((L.zip Tx).take i) = (ti, vi, cli) ∧ vi.ln ≤ 1048576 ∧
    RowB (w4.heap.size + 1) wr vb ti ∧ Upd (fun _ => False) w4 wr ∧ wr.heap[w4.heap.size]? = some (.cells (stCk false v1) 50 (0, 0)))
  case atStart =>
    refine ⟨0, [], v, false, _, rfl, by rw [HV.out.1], by rw [HV.out.2.2.1], rfl, by omega, by simp [fcAll], by rw [HV.out.1]; exact HLn.out.1, ?_, (Upd.refl _ w4).alloc _, heap_alloc_new w4 _⟩
    have h := HB0.out
    rwa [show (w4.alloc (.cells (stCk false v1) 50)).heap.size = w4.heap.size + 1 by simp] at h
  case round =>
  obtain ⟨i, ti, vi, cli, vb, rfl, rfl, rfl, rfl, hik, hall, hln, hrow, hur, hkc⟩ := hrel
  have HI := Lib.hid (And.intro hik (And.intro hall (And.intro hln (And.intro hur hkc))))
  by_cases hlt : i < q
  · have hltI : (i : Int) < (q : Int) := by omega
    have hi1 : i < L.length := by have := HQ.out; omega
    have hi2 : i < Tx.length := by have := HQ.out; omega
    have hi1I : (i : Int) < (L.length : Int) := by omega
    have hi2I : (i : Int) < (Tx.length : Int) := by omega
    obtain ⟨b, hb⟩ : ∃ b, L[i]'hi1 = b := ⟨_, rfl⟩
    obtain ⟨t, ht⟩ : ∃ t, Tx[i]'hi2 = t := ⟨_, rfl⟩
    have hnx := fl_next hall hi1 hi2
    rw [hb, ht] at hnx
    have hts : t.size ≤ 1048576 := ht ▸ HSz.out _ (List.getElem_mem hi2)
    have hbl : b ≤ 262143 := by
      refine HOk.out.2.2.2 b ?_
      rw [List.mem_iff_getElem]
      exact ⟨i, by rw [List.length_take, ← HQ.out]; omega, by rw [List.getElem_take]; exact hb⟩
    have hblI : (b : Int) ≤ 262143 := by omega
    have hlnI : (vi.ln : Int) ≤ 1048576 := by omega
    obtain ⟨a, rfl, c0⟩ := H1.out.2.1 i b (by rw [List.getElem?_eq_getElem hi1, hb])
    obtain ⟨a2, rfl, d0⟩ := H2.out.2.2 i t (by rw [List.getElem?_eq_getElem hi2, ht])
    have c1 : wr.cell? (a.add i) = some (.int .u64 (b : Int)) := hur.cell (HU24.out.cell (H2.out.2.1.cell c0 fun h => h) fun h => h) fun h => h
    have d1 : wr.cell? (a2.add i) = some (.string t) := hur.cell (HU24.out.cell d0 fun h => h) fun h => h
    have hblk : (a2.add i).block < w4.heap.size := Nat.lt_of_lt_of_le (World.block_lt_of_cell? w2 (a2.add i) d0) HU24.out.size
    have hfl := fcAll_flags false ((L.zip Tx).take i) false v 0
    have hll : ((L.zip Tx).take i).length = i := by rw [List.length_take, List.length_zip, ← HQ.out]; omega
    rw [hall, hll] at hfl
    obtain ⟨e1, _, _, e4⟩ := hfl
    have f1 : vi.mn = (v.mn || decide (0 < i)) := e1
    have f4 : mIndent vi = mIndent v := e4
    clear e1 e4
    have hi0 : i = 0 → vi = v ∧ ti = [] := fun e => by
      have h1 := hall
      rw [e, List.take_zero] at h1
      simp only [fcAll, Prod.mk.injEq] at h1
      exact ⟨h1.2.1.symm, h1.1.symm⟩
    have htl : ti.length ≤ 1200000 * i := by
      have h1 := fcAll_len false ((L.zip Tx).take i) false v 0 (mIndent_le v (HVb.out HOk.out HLn.out.1)) fun c hc => (fl_cs HOk.out HSz.out c (List.mem_of_mem_take hc)).2
      rw [hall, hll] at h1
      exact h1
    have hil : i ≤ 4096 := by omega
    obtain ⟨br, hbr⟩ : ∃ br, br = fcBrk vi i b := ⟨_, rfl⟩
    obtain ⟨ld, hld⟩ : ∃ ld, ld = fcLead false cli vi i b := ⟨_, rfl⟩
    have hcase : (vi.mn = true ∧ br = true) ∨ (vi.mn = false ∧ i = 0 ∧ vi.ln < b ∧ 0 < vi.ln ∧ br = true) ∨ (vi.mn = false ∧ i = 0 ∧ vi.ln < b ∧ vi.ln = 0 ∧ br = false) ∨ (vi.mn = false ∧ i = 0 ∧ b ≤ vi.ln ∧ br = false) := by
      cases hm : vi.mn
      · have h0 : i = 0 := by
          rw [hm] at f1
          rcases Nat.eq_zero_or_pos i with h | h
          · exact h
          · rw [decide_eq_true h] at f1; simp at f1
        right
        by_cases h1 : vi.ln < b
        · rcases Nat.eq_zero_or_pos vi.ln with h2 | h2
          · exact .inr (.inl ⟨rfl, h0, h1, h2, by rw [hbr]; simp [fcBrk, hm, h0, h2]⟩)
          · exact .inl ⟨rfl, h0, h1, h2, by rw [hbr]; simp [fcBrk, h1, h2]⟩
        · exact .inr (.inr ⟨rfl, h0, by omega, by rw [hbr]; simp [fcBrk, hm, h0, h1]⟩)
      · exact .inl ⟨rfl, by rw [hbr]; simp [fcBrk, hm]⟩
    have hws : br = false → vi.ws = k8 := fun e => by
      have h0 : i = 0 := by
        rcases hcase with ⟨_, h⟩ | ⟨_, _, _, _, h⟩ | ⟨_, h, _⟩ | ⟨_, h, _⟩
        · rw [e] at h; cases h
        · rw [e] at h; cases h
        · exact h
        · exact h
      rw [(hi0 h0).1]
      exact HV.out.2.1
    have HN := Lib.hid (And.intro hnx (And.intro hts (And.intro hblk (And.intro f4 (And.intro htl (And.intro hil (And.intro hws (And.intro hbr (And.intro hld hbl)))))))))
    have HRow := Lib.hid hrow
    have HD1 := Lib.hid d1
    have HCase := Lib.hid hcase
    clear hnx hts hblk f1 f4 htl hil hws hld c0 d0 d1 hi0 hll hb ht hbl hi1 hi2 hik hall hln hur hkc hrow hbr hcase hlt
    go_upto_region 19 with fail
    go_cut [24, 25, 26, 97] (fun v24 v25 v26 v97 wx => v24 = .int .u64 (vi.ln : Int) ∧ v25 = .bool vi.mn ∧ v26 = .int .i64 (i : Int) ∧ v97 = .bool br ∧ wr = wx)
    case first =>
      rcases HCase.out with ⟨hm, hb⟩ | ⟨hm, h0, h1, h2, hb⟩ | ⟨hm, h0, h1, h2, hb⟩ | ⟨hm, h0, h1, hb⟩
      · have HBr := Lib.hid hb
        have HM := Lib.hid hm
        clear hb
        rw [hm]
        go_wp2_with fail
        go_meet
        exact ⟨rfl, by rw [HM.out], rfl, by rw [HBr.out], rfl⟩
      · have HBr := Lib.hid (And.intro hm (And.intro hb h0))
        have h1I : (vi.ln : Int) < (b : Int) := by omega
        have h2I : (0 : Int) < (vi.ln : Int) := by omega
        have h0I : (i : Int) = 0 := by omega
        rw [hm, h0I]
        clear hb hm h0 h0I
        go_wp2_with fail
        go_meet
        exact ⟨rfl, by rw [HBr.out.1], by rw [HBr.out.2.2]; rfl, by rw [HBr.out.2.1], rfl⟩
      · have HBr := Lib.hid (And.intro hm (And.intro hb (And.intro h0 h2)))
        have h1I : (vi.ln : Int) < (b : Int) := by omega
        have h0I : (i : Int) = 0 := by omega
        have h2I : (vi.ln : Int) = 0 := by omega
        rw [hm, h0I, h2I]
        rw [h2I] at h1I
        clear hb hm h0 h0I h1 h2 h2I
        go_wp2_with fail
        go_meet
        exact ⟨by rw [HBr.out.2.2.2]; rfl, by rw [HBr.out.1], by rw [HBr.out.2.2.1]; rfl, by rw [HBr.out.2.1], rfl⟩
      · have HBr := Lib.hid (And.intro hm (And.intro hb h0))
        have h1I : (b : Int) ≤ (vi.ln : Int) := by omega
        have h0I : (i : Int) = 0 := by omega
        rw [hm, h0I]
        clear hb hm h0 h0I
        go_wp2_with fail
        go_meet
        exact ⟨rfl, by rw [HBr.out.1], by rw [HBr.out.2.2]; rfl, by rw [HBr.out.2.1], rfl⟩
    case rest =>
    obtain ⟨rfl, rfl, rfl, rfl, rfl⟩ := hcut
    clear HCase
    go_upto_if 97 with fail
    go_cut [23] (fun v23 wx => RowB (w4.heap.size + 1) wx v23 (ti ++ ld) ∧ Upd (fun j => w4.heap.size + 1 ≤ j) wr wx)
    case first =>
      cases br
      · have hld : ld = if vi.ws = 1 then [9] else if vi.ws = 2 then [] else [32] := by rw [HN.out.2.2.2.2.2.2.2.2.1]; exact fcLead_no HN.out.2.2.2.2.2.2.2.1.symm
        rw [HN.out.2.2.2.2.2.2.1 rfl] at hld
        have hk8 : k8 = 0 ∨ k8 = 1 ∨ k8 = 2 := by have := HLn.out.2; omega
        have HLd := Lib.hid hld
        clear hld
        rcases hk8 with h8 | h8 | h8
        · subst h8
          obtain ⟨v4, w5, hr4, hrow4, hu4⟩ := HRow.out.pushAt 32 (x := 32) rfl (by have := HN.out.2.2.2.2.1; have := HN.out.2.2.2.2.2.1; unfold LIM; omega) (n := wr.heap.size) rfl
          have HR4 := Lib.hid hr4
          have HW4 := Lib.hid (And.intro hrow4 hu4)
          clear hr4 hrow4 hu4
          go_wp2_with (at_builtin; refine wpList_append_run rfl _ _ _ rfl rfl rfl HR4.out ?_; clear HR4)
          go_meet
          rw [HLd.out]
          exact ⟨HW4.out.1, HW4.out.2⟩
        · subst h8
          obtain ⟨v4, w5, hr4, hrow4, hu4⟩ := HRow.out.pushAt 9 (x := 9) rfl (by have := HN.out.2.2.2.2.1; have := HN.out.2.2.2.2.2.1; unfold LIM; omega) (n := wr.heap.size) rfl
          have HR4 := Lib.hid hr4
          have HW4 := Lib.hid (And.intro hrow4 hu4)
          clear hr4 hrow4 hu4
          go_wp2_with (at_builtin; refine wpList_append_run rfl _ _ _ rfl rfl rfl HR4.out ?_; clear HR4)
          go_meet
          rw [HLd.out]
          exact ⟨HW4.out.1, HW4.out.2⟩
        · subst h8
          go_wp2_with fail
          go_meet
          rw [HLd.out]
          exact ⟨by simpa using HRow.out, Upd.refl _ _⟩
      · have hld : ld = [10] ++ (if vi.ln + 1 < b then [10] else []) ++ mIndent vi := by rw [HN.out.2.2.2.2.2.2.2.2.1]; exact fcLead_brk HN.out.2.2.2.2.2.2.2.1.symm
        rw [HN.out.2.2.2.1, ← HV.out.2.2.2.2.2] at hld
        have HLd := Lib.hid hld
        clear hld
        have hkl := HOk.out.2.2.1
        have HKl := Lib.hid (show k9 * k10 ≤ 65536 ∧ k10 ≤ 65536 from ⟨hkl.2.2, by omega⟩)
        clear hkl
        obtain ⟨v4, w5, hr4, hrow4, hu4⟩ := HRow.out.pushAt 10 (x := 10) rfl (by have := HN.out.2.2.2.2.1; have := HN.out.2.2.2.2.2.1; unfold LIM; omega) (n := wr.heap.size) rfl
        have HR4 := Lib.hid hr4
        by_cases hg : vi.ln + 1 < b
        · have hgI : (vi.ln : Int) + 1 < (b : Int) := by omega
          obtain ⟨v5, w6, hr5, hrow5, hu5⟩ := hrow4.pushAt 10 (x := 10) rfl (by rw [List.length_append, List.length_singleton]; have := HN.out.2.2.2.2.1; have := HN.out.2.2.2.2.2.1; unfold LIM; omega) (n := w5.heap.size) rfl
          have HR5 := Lib.hid hr5
          have HC := Lib.hid (p_indent hrow5 mi k9 k10 HKl.out.1 HKl.out.2 (by simp only [List.length_append, List.length_singleton]; have := HN.out.2.2.2.2.1; have := HN.out.2.2.2.2.2.1; omega))
          have HU := Lib.hid (hu4.trans hu5)
          have HG := Lib.hid hg
          clear hr4 hrow4 hu4 hr5 hrow5 hu5 hg
          go_wp2_with (first
            | (at_builtin; refine wpList_append_run rfl _ _ _ rfl rfl rfl HR4.out ?_; clear HR4)
            | (at_builtin; refine wpList_append_run rfl _ _ _ rfl rfl rfl HR5.out ?_; clear HR5)
            | (go_at_call 22; refine HC.out.mono ?_; rintro e w7 ⟨v7, rfl, h7, hu7⟩; have H7 := Lib.hid (And.intro h7 (HU.out.trans hu7)); clear h7 hu7 HC))
          go_meet
          rw [HLd.out, if_pos HG.out]
          refine ⟨?_, H7.out.2⟩
          have h := H7.out.1
          simpa only [List.append_assoc] using h
        · have hgI : (b : Int) ≤ (vi.ln : Int) + 1 := by omega
          have HC := Lib.hid (p_indent hrow4 mi k9 k10 HKl.out.1 HKl.out.2 (by simp only [List.length_append, List.length_singleton]; have := HN.out.2.2.2.2.1; have := HN.out.2.2.2.2.2.1; omega))
          have HU := Lib.hid hu4
          have HG := Lib.hid hg
          clear hr4 hrow4 hu4 hg
          go_wp2_with (first
            | (at_builtin; refine wpList_append_run rfl _ _ _ rfl rfl rfl HR4.out ?_; clear HR4)
            | (go_at_call 22; refine HC.out.mono ?_; rintro e w7 ⟨v7, rfl, h7, hu7⟩; have H7 := Lib.hid (And.intro h7 (HU.out.trans hu7)); clear h7 hu7 HC))
          go_meet
          rw [HLd.out, if_neg HG.out]
          refine ⟨?_, H7.out.2⟩
          have h := H7.out.1
          simpa only [List.append_assoc, List.append_nil, List.nil_append] using h
    case rest =>
    obtain ⟨hrow, hu⟩ := hcut
    have hlen : (ti ++ ld).length ≤ 6000000000 := by
      have h1 := fcLead_len false cli vi i b
      rw [← HN.out.2.2.2.2.2.2.2.2.1] at h1
      have h2 := mIndent_le v (HVb.out HOk.out HLn.out.1)
      rw [HN.out.2.2.2.1] at h1
      have := HN.out.2.2.2.2.1
      have := HN.out.2.2.2.2.2.1
      rw [List.length_append]
      omega
    obtain ⟨v5, w5, hr5, hrow5, hu5⟩ := hrow.pushAt 35 (x := 35) rfl (by unfold LIM; omega) (n := wc.heap.size) rfl
    have d5 : w5.cell? (a2.add i) = some (.string t) := hu5.cell (hu.cell HD1.out (fun e => by
      have h1 : w4.heap.size + 1 ≤ (a2.add i).block := e
      have := HN.out.2.2.1
      omega)) (fun e => by
      have h1 : w4.heap.size + 1 ≤ (a2.add i).block := e
      have := HN.out.2.2.1
      omega)
    have HR5 := Lib.hid hr5
    have HM := Lib.hid (fun W => p_max vi.ln b W)
    have HTr := Lib.hid (fun W => p_trim t HN.out.2.1 W)
    have hts : (trimB t).size ≤ 1048576 := Nat.le_trans (trimB_len t) HN.out.2.1
    obtain ⟨tt, htt⟩ : ∃ tt, tt = trimB t := ⟨_, rfl⟩
    rw [← htt] at hts
    have HTa := Lib.hid (fun W => fc_hasTab tt (by omega) W)
    have HL5 := Lib.hid (show (ti ++ ld ++ [35]).length ≤ 6000000001 ∧ tt.size ≤ 1048576 by rw [List.length_append, List.length_singleton]; omega)
    have HU5 := Lib.hid (And.intro hrow5 (hu.trans hu5))
    have HTt := Lib.hid htt
    rw [← htt] at HTr
    clear hr5 hrow5 hu5 hrow hu hts htt hlen HD1
    by_cases h9 : 9 ∈ tt.data.toList
    · rw [decide_eq_true h9] at HTa
      have H9 := Lib.hid h9
      clear h9
      go_wp2_with (first
        | (go_at_call 23; refine (HM.out _).mono ?_; rintro e w8 ⟨rfl, rfl⟩; clear HM)
        | (at_builtin; refine wpList_append_run rfl _ _ _ rfl rfl rfl HR5.out ?_; clear HR5)
        | (go_at_call 24; refine (HTr.out _).mono ?_; rintro e w6 ⟨rfl, hu6⟩
           obtain ⟨v7, w7, hr7, hrow7, hu7⟩ := (HU5.out.1.quiet hu6).pushAt 255 (x := 255) rfl (by have := HL5.out.1; unfold LIM; omega) (n := w6.heap.size) rfl
           obtain ⟨v8, w8, hr8, hrow8, hu8⟩ := hrow7.str tt (by rw [List.length_append, List.length_singleton]; have := HL5.out.1; have := HL5.out.2; unfold LIM; omega)
           obtain ⟨v9, w9, hr9, hrow9, hu9⟩ := hrow8.pushAt 255 (x := 255) rfl (by simp only [List.length_append, List.length_singleton]; have h1 := HL5.out.1; have h2 := HL5.out.2; have h3 : tt.data.toList.length = tt.size := rfl; simp only [List.length_append, List.length_singleton] at h1; unfold LIM; omega) (n := w8.heap.size) rfl
           have HR7 := Lib.hid hr7
           have HR8 := Lib.hid hr8
           have HR9 := Lib.hid hr9
           have H10 := Lib.hid (And.intro hrow9 (((HU5.out.2.trans (hu6.mono fun _ h => h.elim)).trans hu7).trans (hu8.trans hu9)))
           clear hu6 hr7 hrow7 hu7 hr8 hrow8 hu8 hr9 hrow9 hu9 HTr)
        | (go_at_call 25; refine (HTa.out _).mono ?_; rintro e w10 ⟨rfl, rfl⟩; clear HTa)
        | (at_builtin; refine wpList_append_run rfl _ _ _ rfl rfl rfl HR7.out ?_; clear HR7)
        | (at_builtin; refine wpList_append_run rfl _ _ _ rfl rfl rfl HR8.out ?_; clear HR8)
        | (at_builtin; refine wpList_append_run rfl _ _ _ rfl rfl rfl HR9.out ?_; clear HR9))
      go_roundg (q - (i + 1))
      case measure => have := HI.out.1; omega
      case rel =>
        refine ⟨i + 1, _, _, _, _, rfl, rfl, rfl, by go_num, by have := HI.out.1; omega, HN.out.1, ?_, ?_, HI.out.2.2.2.1.trans' H10.out.2 fun k hk => .inr (by omega), H10.out.2.heap HI.out.2.2.2.2 (by omega)⟩
        · show max vi.ln b ≤ _
          have := HI.out.2.2.1
          have := HN.out.2.2.2.2.2.2.2.2.2
          omega
        · have h := H10.out.1
          have e : fcT false cli vi i b (trimB t).data.toList = ld ++ [35] ++ ([255] ++ tt.data.toList ++ [255]) := by
            unfold fcT litB
            rw [← HTt.out, if_pos H9.out, ← HN.out.2.2.2.2.2.2.2.2.1]
          rw [e]
          simpa only [List.append_assoc] using h
    · rw [decide_eq_false h9] at HTa
      have H9 := Lib.hid h9
      clear h9
      go_wp2_with (first
        | (go_at_call 23; refine (HM.out _).mono ?_; rintro e w8 ⟨rfl, rfl⟩; clear HM)
        | (at_builtin; refine wpList_append_run rfl _ _ _ rfl rfl rfl HR5.out ?_; clear HR5)
        | (go_at_call 24; refine (HTr.out _).mono ?_; rintro e w6 ⟨rfl, hu6⟩
           obtain ⟨v8, w8, hr8, hrow8, hu8⟩ := (HU5.out.1.quiet hu6).str tt (by have := HL5.out.1; have := HL5.out.2; unfold LIM; omega)
           have HR8 := Lib.hid hr8
           have H10 := Lib.hid (And.intro hrow8 ((HU5.out.2.trans (hu6.mono fun _ h => h.elim)).trans hu8))
           clear hu6 hr8 hrow8 hu8 HTr)
        | (go_at_call 25; refine (HTa.out _).mono ?_; rintro e w10 ⟨rfl, rfl⟩; clear HTa)
        | (at_builtin; refine wpList_append_run rfl _ _ _ rfl rfl rfl HR8.out ?_; clear HR8))
      go_roundg (q - (i + 1))
      case measure => have := HI.out.1; omega
      case rel =>
        refine ⟨i + 1, _, _, _, _, rfl, rfl, rfl, by go_num, by have := HI.out.1; omega, HN.out.1, ?_, ?_, HI.out.2.2.2.1.trans' H10.out.2 fun k hk => .inr (by omega), H10.out.2.heap HI.out.2.2.2.2 (by omega)⟩
        · show max vi.ln b ≤ _
          have := HI.out.2.2.1
          have := HN.out.2.2.2.2.2.2.2.2.2
          omega
        · have h := H10.out.1
          have e : fcT false cli vi i b (trimB t).data.toList = ld ++ [35] ++ tt.data.toList := by
            unfold fcT litB
            rw [← HTt.out, if_neg H9.out, ← HN.out.2.2.2.2.2.2.2.2.1]
          rw [e]
          simpa only [List.append_assoc] using h
  obtain rfl : i = q := by omega
  have hall2 : (ti, vi, cli) = (tx, v1, cl1) := by
    rw [← hall, ← HAll.out, List.take_of_length_le (by rw [List.length_zip, ← HQ.out]; exact Nat.le_refl _)]
  simp only [Prod.mk.injEq] at hall2
  obtain ⟨rfl, rfl, rfl⟩ := hall2
  have hfl := fcAll_flags false (L.zip Tx) false v 0
  rw [HAll.out, show (L.zip Tx).length = i by rw [List.length_zip, ← HQ.out]] at hfl
  obtain ⟨f1, f2, f3, _⟩ := hfl
  obtain ⟨bq, hbq⟩ : ∃ bq, decide (0 < i) = bq := ⟨_, rfl⟩
  have f1 : vi.mn = (mn || bq) := by rw [← HV.out.2.2.1, ← hbq]; exact f1
  have f2 : vi.wn = bq := by
    have h : vi.wn = (v.wn || decide (0 < i)) := f2
    rw [h, HV.out.2.2.2.1, Bool.false_or, hbq]
  have e0 : decide (i = 0) = !bq := by
    rw [← hbq]
    by_cases h0 : 0 < i
    · rw [decide_eq_true h0, decide_eq_false (by omega)]; rfl
    · rw [decide_eq_false h0, decide_eq_true (by omega)]; rfl
  have f3 : vi.fl = (fl && !bq) := by
    have h : vi.fl = (v.fl && decide (i = 0)) := f3
    rw [h, HV.out.2.2.2.2.1, e0]
  have hq1 : decide ((0 : Int) < (i : Int)) = bq := by
    rw [← hbq]
    exact decide_eq_decide.2 (by omega)
  have hq2 : ((i : Int) == 0) = !bq := by
    rw [← e0]
    by_cases h0 : i = 0
    · rw [h0]; rfl
    · rw [decide_eq_false h0, beq_eq_false_iff_ne]; omega
  have hq3 : (i == 0) = !bq := by
    rw [← e0]
    by_cases h0 : i = 0
    · rw [h0]; rfl
    · rw [decide_eq_false h0, beq_eq_false_iff_ne]; exact h0
  have hst : (convert 31 9 vb).run Tryz.prog wr = .ok (.string o1) wr := by rw [HO1.out]; exact str_of_row hrow.row
  have c3 : wr.cell? ⟨w4.heap.size, 3, none⟩ = some (.bool (fl && !bq)) := (cell_at hkc 3).trans (by rw [← f3]; rfl)
  have c4 : wr.cell? ⟨w4.heap.size, 4, none⟩ = some (.bool (mn || bq)) := (cell_at hkc 4).trans (by rw [← f1]; rfl)
  have c5 : wr.cell? ⟨w4.heap.size, 5, none⟩ = some (.bool bq) := (cell_at hkc 5).trans (by rw [← f2]; rfl)
  have c8 : wr.cell? ⟨w4.heap.size, 8, none⟩ = some (.int .u64 (vi.ln : Int)) := cell_at hkc 8
  have c11 : wr.cell? ⟨w4.heap.size, 11, none⟩ = some (.int .i64 0) := cell_at hkc 11
  have HEnd := Lib.hid (((H1.out.2.2.trans H2.out.2.1).trans HU24.out).trans hur)
  clear hrow hur hkc hall hln hik hlt f1 f2 f3 e0 HI
  revert c3 c4
  cases mn <;> cases fl <;> intro c3 c4
  · have c3 : wr.cell? ⟨w4.heap.size, 3, none⟩ = some (.bool (false)) := c3.trans (by simp)
    have c4 : wr.cell? ⟨w4.heap.size, 4, none⟩ = some (.bool bq) := c4.trans (by simp)
    go_wp2_with fail
    go_ret
    exact ⟨by first | rfl | simp, HEnd.out.below (fun k h => h.elim) (Nat.le_refl _)⟩
  · have c3 : wr.cell? ⟨w4.heap.size, 3, none⟩ = some (.bool (!bq)) := c3.trans (by simp)
    have c4 : wr.cell? ⟨w4.heap.size, 4, none⟩ = some (.bool bq) := c4.trans (by simp)
    go_wp2_with fail
    go_ret
    exact ⟨by first | rfl | simp, HEnd.out.below (fun k h => h.elim) (Nat.le_refl _)⟩
  · have c3 : wr.cell? ⟨w4.heap.size, 3, none⟩ = some (.bool (false)) := c3.trans (by simp)
    have c4 : wr.cell? ⟨w4.heap.size, 4, none⟩ = some (.bool true) := c4.trans (by simp)
    go_wp2_with fail
    go_ret
    exact ⟨by first | rfl | simp, HEnd.out.below (fun k h => h.elim) (Nat.le_refl _)⟩
  · have c3 : wr.cell? ⟨w4.heap.size, 3, none⟩ = some (.bool (!bq)) := c3.trans (by simp)
    have c4 : wr.cell? ⟨w4.heap.size, 4, none⟩ = some (.bool true) := c4.trans (by simp)
    go_wp2_with fail
    go_ret
    exact ⟨by first | rfl | simp, HEnd.out.below (fun k h => h.elim) (Nat.le_refl _)⟩
end Go.Proofs.YtmdkpihlhdjjaaaGreatFmt
