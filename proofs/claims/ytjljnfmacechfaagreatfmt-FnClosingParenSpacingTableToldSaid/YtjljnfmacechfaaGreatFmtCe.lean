/-
  n010_157: closingParen on a Printer that is built out of a state, with statements of given kinds.
-/
import Derived.Test.YtjljnfmacechfaaGreatFmtCc
import Derived.Test.YtjljnfmacechfaaGreatFmtCd
import Derived.Test.YtjljnfmacechfaaGreatFmtVi
namespace Go.Proofs.YtjljnfmacechfaaGreatFmt
open Go.RowKit

/-- The statements that have been made. -/
structure KInv (w0 w : World) (v : Value) (sbs ks : List Nat) : Prop where
  row : RowG 35 w v (sbs.map fun sb => .pointer (some ⟨sb, 0, none⟩))
  len : sbs.length = ks.length
  own : ∀ b, v.ownBlock = some b → w0.heap.size ≤ b
  sts : ∀ (i sb k : Nat), sbs[i]? = some sb → ks[i]? = some k → ∃ lo hi, hi ≤ w.heap.size ∧ (∀ b, v.ownBlock = some b → b < lo ∨ hi ≤ b) ∧
    ∀ W : World, (∀ j, lo ≤ j → j < hi → W.heap[j]? = w.heap[j]?) → Calls Tryz.prog 18 #[.iface 35 (.pointer (some ⟨sb, 0, none⟩))] W fun e w' => e = .returned (.bool (endK k)) ∧ W = w'
  upd : Upd (fun _ => False) w0 w

theorem KInv.next {w0 w w5 w6 : World} {v v6 : Value} {sbs ks : List Nat} {sb k : Nat} (h : KInv w0 w v sbs ks) (hk : KSt w.heap.size w5 sb k) (hu5 : Upd (fun _ => False) w w5)
    (hr : RowG 35 w6 v6 ((sbs.map fun sb => .pointer (some ⟨sb, 0, none⟩)) ++ [.pointer (some ⟨sb, 0, none⟩)])) (hu6 : Upd (fun k => v.ownBlock = some k) w5 w6) (ho : ∀ k, v6.ownBlock = some k → v.ownBlock = some k ∨ w5.heap.size ≤ k) :
    KInv w0 w6 v6 (sbs ++ [sb]) (ks ++ [k]) := by
  have hz5 := hu5.size
  have hz6 := hu6.size
  have hz := h.upd.size
  have hvl : ∀ k, v.ownBlock = some k → k < w.heap.size := fun k hk => h.row.lt k hk
  refine ⟨?_, by simp [h.len], fun b hb => (ho b hb).elim (h.own b) fun h => by omega, ?_, (h.upd.trans hu5).trans' hu6 fun b hb => .inr (h.own b hb)⟩
  · rw [List.map_append]
    exact hr
  · intro i sb' k' hi hk'
    by_cases hlt : i < sbs.length
    · rw [List.getElem?_append_left hlt] at hi
      rw [List.getElem?_append_left (by rw [← h.len]; exact hlt)] at hk'
      obtain ⟨lo, hi', h1, h2, h3⟩ := h.sts i sb' k' hi hk'
      refine ⟨lo, hi', by omega, fun b hb => (ho b hb).elim (h2 b) fun h => by omega, fun W hW => h3 W fun j hj1 hj2 => (hW j hj1 hj2).trans ?_⟩
      have e1 := hu6.block j (by omega) (fun e => by rcases h2 j e with h | h <;> omega)
      have e2 := hu5.block j (by omega) fun h => h
      exact e1.trans e2
    · have hil : i = sbs.length := by
        have h1 := (List.getElem?_eq_some_iff.1 hi).1
        rw [List.length_append, List.length_singleton] at h1
        omega
      subst hil
      rw [List.getElem?_append_right (Nat.le_refl _)] at hi
      rw [h.len, List.getElem?_append_right (Nat.le_refl _)] at hk'
      simp only [Nat.sub_self, List.getElem?_cons_zero, Option.some.injEq] at hi hk'
      subst hi hk'
      obtain ⟨hi', h1, h3⟩ := hk
      refine ⟨w.heap.size, hi', by omega, fun b hb => (ho b hb).imp (hvl b) fun h => by omega, fun W hW => h3 W fun j hj1 hj2 => (hW j hj1 hj2).trans ?_⟩
      exact hu6.block j (by omega) (fun e => by have := hvl j e; omega)

set_option maxRecDepth 100000 in
theorem stmtInfo : ∃ i z, Tryz.prog.info? 35 = some i ∧ i.zero = some z ∧ z.cells.size = 1 ∧ i.size = 1 ∧ i.bytes = 8 := ⟨_, _, rfl, rfl, rfl, rfl, rfl⟩
set_option maxRecDepth 100000 in
theorem coms_make (w : World) (n : Nat) (hn : n ≤ 4096) : ∃ w0, (Instr.makeSlice 37 (.int .i64 (n : Int)) (.int .i64 (n : Int))).run Tryz.prog w = .ok (.slice (some ⟨w.heap.size, 0, none⟩) n n) w0 ∧ Upd (fun _ => False) w w0 := by
  obtain ⟨i, z, hi, hz, hby⟩ : ∃ i z, Tryz.prog.info? 118 = some i ∧ i.zero = some z ∧ i.bytes = 24 := ⟨_, _, rfl, rfl, rfl⟩
  exact ⟨_, run_make w 37 118 i _ Tryz.underlying37 hi hz .i64 .i64 n n (by omega) (by omega) (by rw [hby]; omega) (by omega), (Upd.refl _ w).alloc _⟩

/-- Whether the statements end in a parenthesis. -/
def endKs : List Nat → Bool
  | [k] => endK k
  | _ => false

theorem endKs_one {ks : List Nat} (h : endKs ks = true) : ks.length = 1 := by
  rcases ks with _ | ⟨a, _ | ⟨b, t⟩⟩ <;> simp [endKs] at h ⊢

theorem KInv.ends {w0 wr : World} {vo : Option Addr} {vc n : Nat} {sbs ks : List Nat} (h : KInv w0 wr (.slice vo n vc) sbs ks) (hn : n = ks.length) (h1 : n = 1) {pb : Nat} {w4 : World} (hu : Upd (fun _ => False) wr w4) (hpb : wr.heap.size ≤ pb) : EndsAt w4 pb vo (endKs ks) := by
  obtain ⟨k, rfl⟩ := List.length_eq_one_iff.1 (hn.symm.trans h1)
  obtain ⟨sb, rfl⟩ := List.length_eq_one_iff.1 h.len
  obtain ⟨g, cap, cur, hv, hg, _, _, hcur⟩ := h.row.lies (by simp)
  injection hv with hv _ _
  have hgl := heap_lt hg
  obtain ⟨lo, hi, h2, _, h4⟩ := h.sts 0 sb k rfl rfl
  refine ⟨g, some ⟨sb, 0, none⟩, hv, by omega, hu.cell ((cell_at hg 0).trans (hcur 0 _ rfl)) (fun h => h), fun W hW => ?_⟩
  refine (h4 W fun j hj1 hj2 => ?_).mono fun e w' ⟨he, hw⟩ => ⟨he, by rw [← hw]; exact Upd.refl _ _⟩
  exact (hW.block j (by have := hu.size; omega) (by omega)).trans (hu.block j (by omega) fun h => h)

/-- closingParen's text and what it leaves. -/
def clT (v : VS) (ks : List Nat) (nl o c : Nat) : List UInt8 := (if decide (nl = 0) && endKs ks && (v.si || decide (o = c)) then [32] else []) ++ mRp v c ++ [41]

set_option maxRecDepth 100000 in
set_option maxHeartbeats 16000000 in
theorem zz_closingParen (v : VS) (hv : v = stVS v.mi v.si v.fl v.mn v.wn v.sm v.ws v.k v.lv v.ln) (hb : v.Bd) {kv : Value} {ks : List Nat} (nl o c : Nat) (ho : o ≤ 262143) (hc : c ≤ 262143) (hks : ks.length ≤ 4096) (hnl : nl ≤ 4096) {w : World} (hrd : KsRd w kv ks) :
    Calls Tryz.prog 8 #[stV v, kv, .int .i64 (nl : Int), .int .u64 (o : Int), .int .u64 (c : Int)] w fun e w' => e = .returned (.tuple #[.string ⟨(clT v ks nl o c).toArray⟩, stV (sRp v c)]) ∧ Upd (fun _ => False) w w' := by
  obtain ⟨u, hu⟩ : ∃ u, u = sRp v c := ⟨_, rfl⟩
  have HUu := Lib.hid hu
  obtain ⟨tx, htx⟩ : ∃ tx, tx = clT v ks nl o c := ⟨_, rfl⟩
  have HTx := Lib.hid htx
  rw [← hu, ← htx]
  clear hu htx
  obtain ⟨w1, hw1⟩ : ∃ w1, w1 = (w.alloc (.cells (stC v) 28)).alloc (.cells #[.bool false, .bool false, .bool false, .bool false, .bool false, .bool false, .bool false, .int .u64 0, .int .u64 0, .int .u64 0, .int .u8 0, .int .i64 0] 28) := ⟨_, rfl⟩
  obtain ⟨n, hn⟩ : ∃ n, n = ks.length := ⟨_, rfl⟩
  obtain ⟨ao, c0, hkv⟩ : ∃ ao c, kv = .slice ao n c := by
    rcases hrd with ⟨rfl, rfl⟩ | ⟨a, c, rfl, _⟩
    · exact ⟨none, 0, by rw [hn]; rfl⟩
    · exact ⟨some a, c, by rw [hn]⟩
  have hrd' : ∀ j (hj : j < ks.length), ∃ a, ao = some a ∧ w.cell? (a.add j) = some (.int .u8 (ks[j] : Int)) := fun j hj => by
    rcases hrd with ⟨_, rfl⟩ | ⟨a, c', h1, _, h3⟩
    · exact absurd hj (by simp)
    · rw [hkv] at h1
      injection h1 with h1 _ _
      exact ⟨a, h1, h3 j ks[j] (List.getElem?_eq_getElem hj)⟩
  subst hkv
  have hz1 : w1.heap.size = w.heap.size + 2 := by rw [hw1]; simp
  have hx1 : w1.heap[w.heap.size]? = some (.cells (stC v) 28 (0, 0)) := by rw [hw1]; exact heap_alloc2_old w _ _
  have hy1 : w1.heap[w.heap.size + 1]? = some (.cells #[.bool false, .bool false, .bool false, .bool false, .bool false, .bool false, .bool false, .int .u64 0, .int .u64 0, .int .u64 0, .int .u8 0, .int .i64 0] 28 (0, 0)) := by rw [hw1]; exact heap_alloc2_new w _ _
  have hu1 : Upd (fun _ => False) w w1 := by rw [hw1]; exact ((Upd.refl _ w).alloc _).alloc _
  have hstart : KInv w1 w1 (.slice none 0 0) [] [] := ⟨RowG.nil _ _, rfl, by simp [Value.ownBlock], by simp, Upd.refl _ _⟩
  have hnI : (n : Int) ≤ 4096 := by omega
  have hnlI : (nl : Int) ≤ 4096 := by omega
  have HW1 := Lib.hid hw1
  have HX1 := Lib.hid (And.intro hz1 (And.intro hx1 (And.intro hy1 hu1)))
  have HL := Lib.hid (And.intro hb (And.intro ho (And.intro hc (And.intro hnl hn))))
  have HRd := Lib.hid hrd'
  have HSt := Lib.hid hstart
  have HV := Lib.hid hv
  rw [hw1] at hstart
  clear hrd hrd' hv hz1 hx1 hy1 hu1 hb ho hc hks hnl hn hstart
  go_enter Tryz.func8, Tryz.ntmps8
  go_wp2_with fail
  go_loopg [12, 20] n (fun k v12 v20 wr => ∃ (j : Nat) (sbs : List Nat), v20 = .int .i64 (j : Int) ∧ j + k = n ∧ KInv w1 wr v12 sbs (ks.take j))
  case atStart => exact ⟨0, [], rfl, by omega, by rw [List.take_zero]; rw [← hw1]; exact HSt.out⟩
  case round =>
    obtain ⟨j, sbs, rfl, hjk, hinv⟩ := hrel
    have HJ := Lib.hid hjk
    clear hjk
    by_cases hlt : j < n
    · have hltI : (j : Int) < (n : Int) := by omega
      have hj : j < ks.length := by have := HL.out.2.2.2.2; omega
      obtain ⟨k, hkj⟩ : ∃ k, ks[j]'hj = k := ⟨_, rfl⟩
      obtain ⟨a, rfl, hca⟩ := HRd.out j hj
      rw [hkj] at hca
      have c1 : wr.cell? (a.add j) = some (.int .u8 (k : Int)) := (HX1.out.2.2.2.trans hinv.upd).cell hca fun h => h
      have HI := Lib.hid (And.intro hinv hkj)
      obtain ⟨vo, vc, hvf⟩ := hinv.row.form
      have hsl : (sbs.map fun sb => Value.pointer (some ⟨sb, 0, none⟩)).length = j := by rw [List.length_map, hinv.len, List.length_take]; omega
      rw [hsl] at hvf
      subst hvf
      clear hinv hkj hca hsl
      have HK := Lib.hid (z_kind k wr)
      go_wp2_with (go_at_call 10; refine HK.out.mono ?_)
      rintro e w5 ⟨sb, rfl, hst, hu5⟩
      obtain ⟨i, z, hi, hz, hzs, hsz, hby⟩ := stmtInfo
      obtain ⟨v6, w6, hr6, hrow6, hup6, hown6⟩ := RowG.push Tryz.underlying34 hi hz hsz hby hzs (by decide) (HI.out.1.row.stable hu5 fun _ _ h => h) (.pointer (some ⟨sb, 0, none⟩)) rfl (by rw [List.length_map, HI.out.1.len, List.length_take]; omega) (n := w5.heap.size) rfl
      have HR6 := Lib.hid hr6
      have HN := Lib.hid (HI.out.1.next hst hu5 hrow6 hup6 hown6)
      have HKj := Lib.hid HI.out.2
      clear hst hu5 hi hz hzs hsz hby hr6 hrow6 hup6 hown6 c1 HI HK
      go_wp2_with (at_builtin; refine wpList_append_run rfl _ _ _ rfl rfl rfl HR6.out ?_; clear HR6)
      go_roundg (n - (j + 1))
      case measure => have := HJ.out; omega
      case rel =>
        refine ⟨j + 1, sbs ++ [sb], by go_num, by have := HJ.out; omega, ?_⟩
        rw [List.take_succ_eq_append_getElem hj, HKj.out]
        exact HN.out
    · obtain rfl : j = n := by have := HJ.out; omega
      have hltI : ¬ (j : Int) < (j : Int) := by omega
      have htk : ks.take j = ks := List.take_of_length_le (by have := HL.out.2.2.2.2; omega)
      rw [htk] at hinv
      have HI := Lib.hid hinv
      obtain ⟨vo, vc, hvf⟩ := hinv.row.form
      have hsl : (sbs.map fun sb => Value.pointer (some ⟨sb, 0, none⟩)).length = j := by rw [List.length_map, hinv.len, HL.out.2.2.2.2]
      rw [hsl] at hvf
      subst hvf
      clear hinv htk hsl
      have hyr := HI.out.upd.heap HX1.out.2.2.1 fun h => h
      have hxr := HI.out.upd.heap HX1.out.2.1 fun h => h
      have HXY := Lib.hid (And.intro hxr hyr)
      clear hxr hyr
      by_cases h0 : nl = 0
      · subst h0
        have HM := Lib.hid (Upd.refl (fun _ => False) wr)
        have hxm := HM.out.heap HXY.out.1 fun h => h
        have s0 : wr.cell? ⟨w.heap.size, 0, none⟩ = some (.bool v.mi) := cell_at hxm 0
        have s1 : wr.cell? ⟨w.heap.size, 1, none⟩ = some (.bool v.si) := cell_at hxm 1
        have s2 : wr.cell? ⟨w.heap.size, 2, none⟩ = some (.bool false) := cell_at hxm 2
        have s3 : wr.cell? ⟨w.heap.size, 3, none⟩ = some (.bool v.fl) := cell_at hxm 3
        have s4 : wr.cell? ⟨w.heap.size, 4, none⟩ = some (.bool v.mn) := cell_at hxm 4
        have s5 : wr.cell? ⟨w.heap.size, 5, none⟩ = some (.bool v.wn) := cell_at hxm 5
        have s6 : wr.cell? ⟨w.heap.size, 6, none⟩ = some (.bool v.sm) := cell_at hxm 6
        have s7 : wr.cell? ⟨w.heap.size, 7, none⟩ = some (.int .u64 (v.k : Int)) := cell_at hxm 7
        have s8 : wr.cell? ⟨w.heap.size, 8, none⟩ = some (.int .u64 (v.ln : Int)) := cell_at hxm 8
        have s9 : wr.cell? ⟨w.heap.size, 9, none⟩ = some (.int .u64 (v.lv : Int)) := cell_at hxm 9
        have s10 : wr.cell? ⟨w.heap.size, 10, none⟩ = some (.int .u8 (v.ws : Int)) := cell_at hxm 10
        have s11 : wr.cell? ⟨w.heap.size, 11, none⟩ = some (.int .i64 0) := cell_at hxm 11
        clear hxm
        have HPo := Lib.hid (fun W => new_pos 0 o (by omega) W)
        have HPc := Lib.hid (fun W => new_pos 0 c (by omega) W)
        go_wp2_with (first
          | (go_at_call 11; refine (zz_build v HV.out _).mono ?_; rintro e w2 ⟨pb, k, b, F, rfl, hX, hpb, hF, hu2⟩
             have HX := Lib.hid hX
             have HF := Lib.hid (And.intro hpb (And.intro hF hu2))
             clear hX hpb hF hu2 s0 s1 s2 s3 s4 s5 s6 s7 s8 s9 s10 s11)
          | (go_at_call 13; refine (HPo.out _).mono ?_; rintro e w3 ⟨rfl, hu3⟩; have HU3 := Lib.hid hu3; clear hu3 HPo)
          | (go_at_call 13; refine (HPc.out _).mono ?_; rintro e w4 ⟨rfl, hu4⟩
             have HU4 := Lib.hid (HU3.out.trans hu4)
             have hcp := (v_closingParen (bb_tok k) (HX.out.quiet (bb_tok k) HU4.out) (sa := vo) (la := none) (sn := j) (sc := vc) (ln := 0) (lcp := 0) (r := endKs ks) 0 (lcP o) 0 (lcP c) (lcP_lt o) (lcP_lt c)
               (fun _ h1 => HI.out.ends HL.out.2.2.2.2 h1 ((HM.out.trans HF.out.2.2).trans HU4.out) (Nat.le_trans HM.out.size HF.out.1)) (by omega) (by have := HL.out.2.2.2.1; omega) (fun _ _ => rfl) (Nat.le_trans HL.out.1.kl (by decide)) (Nat.le_trans HL.out.1.lv (by decide)) (Nat.le_trans HL.out.1.ln (by decide)) (by have := mIndent_le v HL.out.1; unfold LIM; simp only [List.length_nil]; omega))
             have e4 : lcP c / 16384 = c := by rw [lcP_line]; unfold clampL; rw [if_neg (by have := HL.out.2.2.1; omega)]
             have e5 : lcP o / 16384 = o := by rw [lcP_line]; unfold clampL; rw [if_neg (by have := HL.out.2.1; omega)]
             have e6 : (decide (0 = 0) && decide (j = 1) && endKs ks && (v.si || decide (o = c))) = (decide (0 = 0) && endKs ks && (v.si || decide (o = c))) := by
               cases hk : endKs ks
               · simp
               · have : j = 1 := by
                   rw [HL.out.2.2.2.2]
                   exact endKs_one hk
                 simp [this]
             rw [e4, e5, e6, List.nil_append, ← HUu.out] at hcp
             have e7 : (if (decide (0 = 0) && endKs ks && (v.si || decide (o = c))) = true then [32] else []) ++ mRp v c ++ [41] = tx := HTx.out.symm
             rw [e7] at hcp
             have HCp := Lib.hid hcp
             clear hu4 HPc e4 e5 e6 e7 hcp)
          | (go_at_call 12; refine HCp.out.mono ?_; rintro e w6 ⟨rfl, h6⟩
             have HRd := Lib.hid (zz_read h6 (by
               have h1 := mIndent_le v HL.out.1
               have h2 := mRp_len v c
               unfold LIM
               rw [HTx.out]
               unfold clT
               rw [List.length_append, List.length_append, List.length_singleton]
               split <;> simp only [List.length_nil, List.length_singleton] <;> omega))
             clear h6 HCp)
          | (go_at_call 14; refine HRd.out.mono ?_; rintro e w5 ⟨rfl, h5⟩
             have hy5 := h5.fin.heap ((HM.out.trans HF.out.2.2).heap HXY.out.2 fun h => h) (by
               have h2 := HX1.out.1
               have h3 := HI.out.upd.size
               have h4 := HM.out.size
               rintro (e | e)
               · have h1 := HF.out.1; omega
               · have h1 := HF.out.2.1 _ e; omega)
             have y0 : w5.cell? ⟨w.heap.size + 1, 0, none⟩ = some (.bool false) := cell_at hy5 0
             have fy0 : w5.frozen? ⟨w.heap.size + 1, 0, none⟩ = false := frozen_at hy5 0
             have y1 : w5.cell? ⟨w.heap.size + 1, 1, none⟩ = some (.bool false) := cell_at hy5 1
             have fy1 : w5.frozen? ⟨w.heap.size + 1, 1, none⟩ = false := frozen_at hy5 1
             have y2 : w5.cell? ⟨w.heap.size + 1, 2, none⟩ = some (.bool false) := cell_at hy5 2
             have fy2 : w5.frozen? ⟨w.heap.size + 1, 2, none⟩ = false := frozen_at hy5 2
             have y3 : w5.cell? ⟨w.heap.size + 1, 3, none⟩ = some (.bool false) := cell_at hy5 3
             have fy3 : w5.frozen? ⟨w.heap.size + 1, 3, none⟩ = false := frozen_at hy5 3
             have y4 : w5.cell? ⟨w.heap.size + 1, 4, none⟩ = some (.bool false) := cell_at hy5 4
             have fy4 : w5.frozen? ⟨w.heap.size + 1, 4, none⟩ = false := frozen_at hy5 4
             have y5 : w5.cell? ⟨w.heap.size + 1, 5, none⟩ = some (.bool false) := cell_at hy5 5
             have fy5 : w5.frozen? ⟨w.heap.size + 1, 5, none⟩ = false := frozen_at hy5 5
             have y6 : w5.cell? ⟨w.heap.size + 1, 6, none⟩ = some (.bool false) := cell_at hy5 6
             have fy6 : w5.frozen? ⟨w.heap.size + 1, 6, none⟩ = false := frozen_at hy5 6
             have y7 : w5.cell? ⟨w.heap.size + 1, 7, none⟩ = some (.int .u64 0) := cell_at hy5 7
             have fy7 : w5.frozen? ⟨w.heap.size + 1, 7, none⟩ = false := frozen_at hy5 7
             have y8 : w5.cell? ⟨w.heap.size + 1, 8, none⟩ = some (.int .u64 0) := cell_at hy5 8
             have fy8 : w5.frozen? ⟨w.heap.size + 1, 8, none⟩ = false := frozen_at hy5 8
             have y9 : w5.cell? ⟨w.heap.size + 1, 9, none⟩ = some (.int .u64 0) := cell_at hy5 9
             have fy9 : w5.frozen? ⟨w.heap.size + 1, 9, none⟩ = false := frozen_at hy5 9
             have y10 : w5.cell? ⟨w.heap.size + 1, 10, none⟩ = some (.int .u8 0) := cell_at hy5 10
             have fy10 : w5.frozen? ⟨w.heap.size + 1, 10, none⟩ = false := frozen_at hy5 10
             have y11 : w5.cell? ⟨w.heap.size + 1, 11, none⟩ = some (.int .i64 0) := cell_at hy5 11
             have fy11 : w5.frozen? ⟨w.heap.size + 1, 11, none⟩ = false := frozen_at hy5 11
             have HY5 := Lib.hid (And.intro hy5 h5)
             clear hy5 h5 HRd))
        obtain ⟨hy5, h5⟩ := HY5.out
        refine bodyPost_ret (results_tmp_cell_row rfl _ _ (w.heap.size + 1) _ _ (0, 0) _ rfl (stored12 hy5 _ _ _ _ _ _ _ _ _ _ _ _) Tryz.underlying28 rfl (by kernel_rfl)) rfl ?_
        have h1 := HX1.out.1
        have h2 := HF.out.1
        have h3 := HI.out.upd.size
        have h4 := HM.out.size
        refine ⟨?_, upd12 ((((HX1.out.2.2.2.trans HI.out.upd).trans HM.out).trans HF.out.2.2).trans' h5.fin fun j hj => ?_) (.inr (by omega)) _ _ _ _ _ _ _ _ _ _ _ _⟩
        · rfl
        · rcases hj with h | h
          · exact .inr (by omega)
          · exact .inr (by have := HF.out.2.1 j h; omega)
      · have h0I : (0 : Int) < (nl : Int) := by omega
        obtain ⟨wm, hmk, hum⟩ := coms_make wr nl HL.out.2.2.2.1
        have HM := Lib.hid hum
        clear hum
        have hxm := HM.out.heap HXY.out.1 fun h => h
        have s0 : wm.cell? ⟨w.heap.size, 0, none⟩ = some (.bool v.mi) := cell_at hxm 0
        have s1 : wm.cell? ⟨w.heap.size, 1, none⟩ = some (.bool v.si) := cell_at hxm 1
        have s2 : wm.cell? ⟨w.heap.size, 2, none⟩ = some (.bool false) := cell_at hxm 2
        have s3 : wm.cell? ⟨w.heap.size, 3, none⟩ = some (.bool v.fl) := cell_at hxm 3
        have s4 : wm.cell? ⟨w.heap.size, 4, none⟩ = some (.bool v.mn) := cell_at hxm 4
        have s5 : wm.cell? ⟨w.heap.size, 5, none⟩ = some (.bool v.wn) := cell_at hxm 5
        have s6 : wm.cell? ⟨w.heap.size, 6, none⟩ = some (.bool v.sm) := cell_at hxm 6
        have s7 : wm.cell? ⟨w.heap.size, 7, none⟩ = some (.int .u64 (v.k : Int)) := cell_at hxm 7
        have s8 : wm.cell? ⟨w.heap.size, 8, none⟩ = some (.int .u64 (v.ln : Int)) := cell_at hxm 8
        have s9 : wm.cell? ⟨w.heap.size, 9, none⟩ = some (.int .u64 (v.lv : Int)) := cell_at hxm 9
        have s10 : wm.cell? ⟨w.heap.size, 10, none⟩ = some (.int .u8 (v.ws : Int)) := cell_at hxm 10
        have s11 : wm.cell? ⟨w.heap.size, 11, none⟩ = some (.int .i64 0) := cell_at hxm 11
        clear hxm
        have HPo := Lib.hid (fun W => new_pos 0 o (by omega) W)
        have HPc := Lib.hid (fun W => new_pos 0 c (by omega) W)
        have HN0 := Lib.hid h0
        clear h0
        go_wp2_with (first
          | (go_at_call 11; refine (zz_build v HV.out _).mono ?_; rintro e w2 ⟨pb, k, b, F, rfl, hX, hpb, hF, hu2⟩
             have HX := Lib.hid hX
             have HF := Lib.hid (And.intro hpb (And.intro hF hu2))
             clear hX hpb hF hu2 s0 s1 s2 s3 s4 s5 s6 s7 s8 s9 s10 s11)
          | (go_at_call 13; refine (HPo.out _).mono ?_; rintro e w3 ⟨rfl, hu3⟩; have HU3 := Lib.hid hu3; clear hu3 HPo)
          | (go_at_call 13; refine (HPc.out _).mono ?_; rintro e w4 ⟨rfl, hu4⟩
             have HU4 := Lib.hid (HU3.out.trans hu4)
             have HCp := Lib.hid (v_closingParen (bb_tok k) (HX.out.quiet (bb_tok k) HU4.out) (sa := vo) (la := some ⟨wr.heap.size, 0, none⟩) (sn := j) (sc := vc) (ln := nl) (lcp := nl) (r := endKs ks) 0 (lcP o) 0 (lcP c) (lcP_lt o) (lcP_lt c)
               (fun _ h1 => HI.out.ends HL.out.2.2.2.2 h1 ((HM.out.trans HF.out.2.2).trans HU4.out) (Nat.le_trans HM.out.size HF.out.1)) (by omega) (by have := HL.out.2.2.2.1; omega) (fun _ _ => rfl) (Nat.le_trans HL.out.1.kl (by decide)) (Nat.le_trans HL.out.1.lv (by decide)) (Nat.le_trans HL.out.1.ln (by decide)) (by have := mIndent_le v HL.out.1; unfold LIM; simp only [List.length_nil]; omega))
             clear hu4 HPc)
          | (go_at_call 12; refine HCp.out.mono ?_; rintro e w6 ⟨rfl, h6⟩
             have e4 : lcP c / 16384 = c := by rw [lcP_line]; unfold clampL; rw [if_neg (by have := HL.out.2.2.1; omega)]
             have e5 : lcP o / 16384 = o := by rw [lcP_line]; unfold clampL; rw [if_neg (by have := HL.out.2.1; omega)]
             have e6 : (decide (nl = 0) && decide (j = 1) && endKs ks && (v.si || decide (o = c))) = (decide (nl = 0) && endKs ks && (v.si || decide (o = c))) := by
               cases hk : endKs ks
               · simp
               · have : j = 1 := by
                   rw [HL.out.2.2.2.2]
                   exact endKs_one hk
                 simp [this]
             rw [e4, e5, e6, List.nil_append, ← HUu.out] at h6
             have HRd := Lib.hid (zz_read h6 (by
               have h1 := mIndent_le v HL.out.1
               have h2 := mRp_len v c
               unfold LIM
               rw [List.length_append, List.length_append, List.length_singleton]
               split <;> simp only [List.length_nil, List.length_singleton] <;> omega))
             clear h6 e4 e5 e6 HCp)
          | (go_at_call 14; refine HRd.out.mono ?_; rintro e w5 ⟨rfl, h5⟩
             have hy5 := h5.fin.heap ((HM.out.trans HF.out.2.2).heap HXY.out.2 fun h => h) (by
               have h2 := HX1.out.1
               have h3 := HI.out.upd.size
               have h4 := HM.out.size
               rintro (e | e)
               · have h1 := HF.out.1; omega
               · have h1 := HF.out.2.1 _ e; omega)
             have y0 : w5.cell? ⟨w.heap.size + 1, 0, none⟩ = some (.bool false) := cell_at hy5 0
             have fy0 : w5.frozen? ⟨w.heap.size + 1, 0, none⟩ = false := frozen_at hy5 0
             have y1 : w5.cell? ⟨w.heap.size + 1, 1, none⟩ = some (.bool false) := cell_at hy5 1
             have fy1 : w5.frozen? ⟨w.heap.size + 1, 1, none⟩ = false := frozen_at hy5 1
             have y2 : w5.cell? ⟨w.heap.size + 1, 2, none⟩ = some (.bool false) := cell_at hy5 2
             have fy2 : w5.frozen? ⟨w.heap.size + 1, 2, none⟩ = false := frozen_at hy5 2
             have y3 : w5.cell? ⟨w.heap.size + 1, 3, none⟩ = some (.bool false) := cell_at hy5 3
             have fy3 : w5.frozen? ⟨w.heap.size + 1, 3, none⟩ = false := frozen_at hy5 3
             have y4 : w5.cell? ⟨w.heap.size + 1, 4, none⟩ = some (.bool false) := cell_at hy5 4
             have fy4 : w5.frozen? ⟨w.heap.size + 1, 4, none⟩ = false := frozen_at hy5 4
             have y5 : w5.cell? ⟨w.heap.size + 1, 5, none⟩ = some (.bool false) := cell_at hy5 5
             have fy5 : w5.frozen? ⟨w.heap.size + 1, 5, none⟩ = false := frozen_at hy5 5
             have y6 : w5.cell? ⟨w.heap.size + 1, 6, none⟩ = some (.bool false) := cell_at hy5 6
             have fy6 : w5.frozen? ⟨w.heap.size + 1, 6, none⟩ = false := frozen_at hy5 6
             have y7 : w5.cell? ⟨w.heap.size + 1, 7, none⟩ = some (.int .u64 0) := cell_at hy5 7
             have fy7 : w5.frozen? ⟨w.heap.size + 1, 7, none⟩ = false := frozen_at hy5 7
             have y8 : w5.cell? ⟨w.heap.size + 1, 8, none⟩ = some (.int .u64 0) := cell_at hy5 8
             have fy8 : w5.frozen? ⟨w.heap.size + 1, 8, none⟩ = false := frozen_at hy5 8
             have y9 : w5.cell? ⟨w.heap.size + 1, 9, none⟩ = some (.int .u64 0) := cell_at hy5 9
             have fy9 : w5.frozen? ⟨w.heap.size + 1, 9, none⟩ = false := frozen_at hy5 9
             have y10 : w5.cell? ⟨w.heap.size + 1, 10, none⟩ = some (.int .u8 0) := cell_at hy5 10
             have fy10 : w5.frozen? ⟨w.heap.size + 1, 10, none⟩ = false := frozen_at hy5 10
             have y11 : w5.cell? ⟨w.heap.size + 1, 11, none⟩ = some (.int .i64 0) := cell_at hy5 11
             have fy11 : w5.frozen? ⟨w.heap.size + 1, 11, none⟩ = false := frozen_at hy5 11
             have HY5 := Lib.hid (And.intro hy5 h5)
             clear hy5 h5 HRd))
        obtain ⟨hy5, h5⟩ := HY5.out
        refine bodyPost_ret (results_tmp_cell_row rfl _ _ (w.heap.size + 1) _ _ (0, 0) _ rfl (stored12 hy5 _ _ _ _ _ _ _ _ _ _ _ _) Tryz.underlying28 rfl (by kernel_rfl)) rfl ?_
        have h1 := HX1.out.1
        have h2 := HF.out.1
        have h3 := HI.out.upd.size
        have h4 := HM.out.size
        refine ⟨?_, upd12 ((((HX1.out.2.2.2.trans HI.out.upd).trans HM.out).trans HF.out.2.2).trans' h5.fin fun j hj => ?_) (.inr (by omega)) _ _ _ _ _ _ _ _ _ _ _ _⟩
        · have ht : clT v ks nl o c = mRp v c ++ [41] := by
            unfold clT
            rw [show decide (nl = 0) = false from decide_eq_false HN0.out]
            simp
          rw [HTx.out, ht]
          rfl
        · rcases hj with h | h
          · exact .inr (by omega)
          · exact .inr (by have := HF.out.2.1 j h; omega)
end Go.Proofs.YtjljnfmacechfaaGreatFmt
