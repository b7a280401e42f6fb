/-
  n010_157.FnFlushCommentsSecondCallSilent: what the text of the comments holds; a later beginning with its blocks said; four results.
  n010_157: zzComments makes the row of comments.
-/
import Derived.Test.YtmdkpihlhdjjaaaGreatFmtKFxAX
import Derived.Test.YtmdkpihlhdjjaaaGreatFmtKFbCX
import Derived.Test.YtmdkpihlhdjjaaaGreatFmtKCaX
import Derived.Test.YtmdkpihlhdjjaaaGreatFmtKMaX
import Derived.Test.YtmdkpihlhdjjaaaGreatFmtKGrX
namespace Go.Proofs.YtmdkpihlhdjjaaaGreatFmt
open Go.RowKit

theorem mIndent_fcS (kp cl : Bool) (v : VS) (i L : Nat) : mIndent (fcS kp cl v i L) = mIndent v := by
  have h := fcS_k kp cl v i L
  unfold mIndent
  rw [h.1, h.2.1, h.2.2.1]
theorem fcT_hash (kp cl : Bool) (v : VS) (i L : Nat) (t : List UInt8) : 1 ≤ (fcT kp cl v i L t).count 35 := by
  unfold fcT
  rw [List.count_append, List.count_append]
  have : ([35] : List UInt8).count 35 = 1 := rfl
  omega
theorem fcAll_facts (kp : Bool) : ∀ (cs : List (Nat × ByteArray)) (cl : Bool) (v : VS) (i : Nat), cs.length ≤ (fcAll kp cl v i cs).1.count 35 ∧ v.ln ≤ (fcAll kp cl v i cs).2.1.ln ∧ ∀ c ∈ cs, c.1 ≤ (fcAll kp cl v i cs).2.1.ln
  | [], cl, v, i => by simp [fcAll]
  | c :: r, cl, v, i => by
    obtain ⟨h1, h2, h3⟩ := fcAll_facts kp r (clOf kp cl (fcT kp cl v i c.1 (trimB c.2).data.toList)) (fcS kp cl v i c.1) (i + 1)
    have h4 : (fcS kp cl v i c.1).ln = max v.ln c.1 := rfl
    have h5 := fcT_hash kp cl v i c.1 (trimB c.2).data.toList
    rw [h4] at h2
    refine ⟨?_, ?_, fun d hd => ?_⟩
    · show r.length + 1 ≤ (_ ++ _ : List UInt8).count 35
      rw [List.count_append]
      omega
    · show v.ln ≤ _
      exact Nat.le_trans (Nat.le_max_left _ _) h2
    · rcases List.mem_cons.1 hd with rfl | hd
      · exact Nat.le_trans (Nat.le_max_right _ _) h2
      · exact h3 d hd
theorem fcAll_len (kp : Bool) : ∀ (cs : List (Nat × ByteArray)) (cl : Bool) (v : VS) (i : Nat), (mIndent v).length ≤ 65540 → (∀ c ∈ cs, c.2.size ≤ 1048576) → (fcAll kp cl v i cs).1.length ≤ 1200000 * cs.length
  | [], cl, v, i, _, _ => by simp [fcAll]
  | c :: r, cl, v, i, hm, hc => by
    have h1 := fcAll_len kp r (clOf kp cl (fcT kp cl v i c.1 (trimB c.2).data.toList)) (fcS kp cl v i c.1) (i + 1) (by rw [mIndent_fcS]; exact hm) fun d hd => hc d (List.mem_cons_of_mem _ hd)
    have h2 := fcT_len kp cl v i c.1 (trimB c.2).data.toList
    have h3 := trimB_len c.2
    have h4 := hc c (List.mem_cons_self ..)
    have h5 : (trimB c.2).data.toList.length = (trimB c.2).size := rfl
    show (_ ++ _ : List UInt8).length ≤ 1200000 * (r.length + 1)
    rw [List.length_append]
    omega

section
variable {T : Sink} {pb b : Nat} {kp : Bool} {K : Nat} {tv pc : Value} {B : Base} {w w' : World} {l : List UInt8} {v : VS} {cl : Bool}
theorem PX.base2 (hT : TOk T) (x : PX T pb b tv B w l v) (hu : Upd (fun _ => False) w w') : ∃ B' : Base, PX T pb b tv B' w' l v ∧ (∀ k o, B.At pb k o → B'.At pb k o) ∧ (∀ k o, w.heap.size ≤ k → w'.heap[k]? = some o → B'.At pb k o) ∧ (∀ k, B'.F0 k → B.F0 k ∨ B.w0.heap.size ≤ k) ∧ B'.w0 = w' := by
  obtain ⟨F, h, x⟩ := x
  have hz := hu.size
  have hfl : ∀ k, F k → k < w.heap.size := x.buf.lt hT.law
  refine ⟨⟨w', fun k => F k ∨ (h.lev v.inc).ownBlock = some k⟩, ⟨F, h, x.cell.keep hu (fun h => h), x.buf.stable hT.law hu (fun _ _ h => h), x.np, ownsRow_stable x.lev hu (fun _ _ h => h), fun k hk => ⟨(x.ld k hk).1, .inl (.inr hk)⟩, fun k hk => .inl (.inl hk), Upd.refl _ _⟩, ?_, ?_, ?_, rfl⟩
  · intro k o hA
    obtain ⟨h1, h2, h3⟩ := x.at hA
    refine ⟨hu.heap h1 fun h => h, h2, fun e => ?_⟩
    rcases e with e | e
    · exact h3 e
    · rcases (x.ld k e).2 with h4 | h4
      · exact hA.2.2 h4
      · have := heap_lt hA.1
        omega
  · intro k o hk ho
    refine ⟨ho, ?_, ?_⟩
    · rintro rfl
      have := heap_lt x.cell
      omega
    · rintro (e | e)
      · have := hfl k e
        omega
      · have := x.lev_lt e
        omega
  · intro k hk
    rcases hk with hk | hk
    · exact x.fr k hk
    · exact (x.ld k hk).2
theorem FX.base2 (hT : TOk T) (x : FX T pb b kp K pc B w l v cl) (hu : Upd (fun _ => False) w w') : ∃ B' : Base, FX T pb b kp K pc B' w' l v cl ∧ (∀ k o, B.At pb k o → B'.At pb k o) ∧ (∀ k o, w.heap.size ≤ k → w'.heap[k]? = some o → B'.At pb k o) ∧ (∀ k, B'.F0 k → B.F0 k ∨ B.w0.heap.size ≤ k) ∧ B'.w0 = w' := by
  obtain ⟨F, h, cc, x, y⟩ := x
  have hx := x.quiet hT hu
  have hz := hu.size
  have hfl : ∀ k, F k → k < w.heap.size := x.buf.lt hT.law
  refine ⟨⟨w', fun k => F k ∨ (h.lev v.inc).ownBlock = some k⟩, ⟨F, h, cc, ⟨hx.cell, hx.buf, hx.np, hx.lev, fun k hk => ⟨(x.ld k hk).1, .inl (.inr hk)⟩, fun k hk => .inl (.inl hk), Upd.refl _ _⟩, y⟩, ?_, ?_, ?_, rfl⟩
  · intro k o hA
    obtain ⟨h1, h2, h3⟩ := x.at hA
    refine ⟨hu.heap h1 fun h => h, h2, fun e => ?_⟩
    rcases e with e | e
    · exact h3 e
    · rcases (x.ld k e).2 with h4 | h4
      · exact hA.2.2 h4
      · have := heap_lt hA.1
        omega
  · intro k o hk ho
    refine ⟨ho, ?_, ?_⟩
    · rintro rfl
      have := heap_lt x.cell
      omega
    · rintro (e | e)
      · have := hfl k e
        omega
      · have := (x.lev.lt k e).2
        omega
  · intro k hk
    rcases hk with hk | hk
    · exact x.fr k hk
    · exact (x.ld k hk).2
/-- What the Printer's use has left alone. -/
theorem PX.upd (x : PX T pb b tv B w l v) : Upd (fun k => k = pb ∨ B.F0 k) B.w0 w := by
  obtain ⟨F, h, x⟩ := x
  exact x.upd
theorem FX.upd (x : FX T pb b kp K pc B w l v cl) : Upd (fun k => k = pb ∨ B.F0 k) B.w0 w := by
  obtain ⟨F, h, cc, x, _⟩ := x
  exact x.upd
end

theorem drew_at {w : World} {g : Nat} {cs : Array Value} {t : TypeId} {fr : Nat × Nat} (h : w.heap[g]? = some (.cells cs t fr)) (i : Nat) : w.drew.cell? ⟨g, i, none⟩ = cs[i]? := cell_at h i
theorem drew_row {w : World} {g : Nat} {o : Obj} (h : w.heap[g]? = some o) : w.drew.heap[g]? = some o := h

/-- Four results, the second and the last out of cells. -/
theorem results_4cells {P : Program} {fn : Func} {a p c q : Tmp} {ty : TypeId} (h : fn.results = #[.tmp a, .cell p ty, .tmp c, .cell q ty]) (tmps : Array Value) (w : World) (g g2 : Nat) (t : TypeId) (cs cs2 : Array Value) (fr fr2 : Nat × Nat) (d : TypeDesc)
    (hp : tmps.getD p undef = .pointer (some ⟨g, 0, none⟩)) (hg : w.heap[g]? = some (.cells cs t fr)) (hq : tmps.getD q undef = .pointer (some ⟨g2, 0, none⟩)) (hg2 : w.heap[g2]? = some (.cells cs2 t fr2))
    (hu : P.underlying ty = some d) (hd : (match d with | .struct _ | .array _ _ => true | _ => false) = true) (hi : (P.info? ty).map (·.size) = some cs.size) (hi2 : (P.info? ty).map (·.size) = some cs2.size) :
    (results fn tmps).run P w = .ok (.tuple #[tmps.getD a undef, .agg cs, tmps.getD c undef, .agg cs2]) w := by
  have hp' : tmps[p]?.getD undef = .pointer (some ⟨g, 0, none⟩) := by simpa using hp
  have hq' : tmps[q]?.getD undef = .pointer (some ⟨g2, 0, none⟩) := by simpa using hq
  simp [results, h, hp', hq', asAddr, run_loadVar_row w g t ty cs fr d hg hu hd hi, run_loadVar_row w g2 t ty cs2 fr2 d hg2 hu hd hi2]
end Go.Proofs.YtmdkpihlhdjjaaaGreatFmt

namespace Go.Proofs.YtmdkpihlhdjjaaaGreatFmt
open Go.RowKit

set_option maxRecDepth 100000 in
theorem com_make (w : World) (n : Nat) (hn : n ≤ 4096) : ∃ cur : Array Value, cur.size = 3 * n ∧ (Instr.makeSlice 88 (.int .i64 (n : Int)) (.int .i64 (n : Int))).run Tryz.prog w = .ok (.slice (some ⟨w.heap.size, 0, none⟩) n n) (w.alloc (.cells cur 42)) := by
  obtain ⟨i, z, hi, hz, hzs, hsz, hby⟩ : ∃ i z, Tryz.prog.info? 42 = some i ∧ i.zero = some z ∧ z.cells.size = 3 ∧ i.size = 3 ∧ i.bytes = 24 := ⟨_, _, rfl, rfl, rfl, rfl, rfl⟩
  refine ⟨_, ?_, run_make w 88 42 i _ Tryz.underlying88 hi hz .i64 .i64 n n (by omega) (by omega) (by rw [hby]; omega) (by omega)⟩
  rw [hsz]
  simp [size_madeCells]
  omega

theorem rows_of {cs : List (Nat × ByteArray)} {cur : Array Value} (hs : cur.size = 3 * cs.length) (h : ∀ (i : Nat) (hi : i < cs.length), cur[i * 3]? = some (.int .u32 0) ∧ cur[i * 3 + 1]? = some (.int .u32 (lcP (cs[i]'hi).1 : Int)) ∧ cur[i * 3 + 2]? = some (.string (cs[i]'hi).2)) : cur = (comC cs).toArray := by
  apply Array.ext'
  apply List.ext_getElem?
  intro k
  have hlen := comC_len cs
  by_cases hk : k / 3 < cs.length
  · have h1 := h (k / 3) hk
    have h2 := comC_at cs (k / 3) hk
    have h3 : k = k / 3 * 3 ∨ k = k / 3 * 3 + 1 ∨ k = k / 3 * 3 + 2 := by omega
    rcases h3 with e | e | e <;> rw [e] <;> simp only [Array.getElem?_toList]
    · exact h1.1.trans h2.1.symm
    · exact h1.2.1.trans h2.2.1.symm
    · exact h1.2.2.trans h2.2.2.symm
  · rw [List.getElem?_eq_none (by rw [Array.length_toList]; omega), List.getElem?_eq_none (by simp only []; omega)]

set_option maxRecDepth 100000 in
set_option maxHeartbeats 16000000 in
theorem zz_comments {lv tv : Value} {L : List Nat} {T : List ByteArray} {cs : List (Nat × ByteArray)} (hcz : cs = L.zip T) {w : World} (hL : UintsRd w lv L) (hT : StrsRd w tv T) (h1 : L.length ≤ 4096) (h2 : T.length ≤ 4096) :
    Calls Tryz.prog 51 #[lv, tv] w fun e w' => ∃ pcv, e = .returned pcv ∧ Upd (fun _ => False) w w' ∧ ((cs = [] ∧ pcv = .slice none 0 0) ∨ (0 < cs.length ∧ ∃ g, pcv = .slice (some ⟨g, 0, none⟩) cs.length cs.length ∧ w.heap.size ≤ g ∧ w'.heap[g]? = some (.cells (comC cs).toArray 42 (0, 0)))) := by
  have HCz := Lib.hid hcz
  obtain ⟨n, hn⟩ : ∃ n, n = L.length := ⟨_, rfl⟩
  obtain ⟨m, hm⟩ : ∃ m, m = T.length := ⟨_, rfl⟩
  obtain ⟨k, hk⟩ : ∃ k, k = min n m := ⟨_, rfl⟩
  have hz : cs.length = k := by rw [hcz, List.length_zip, hk, hn, hm]
  have hmin : min (n : Int) (m : Int) = (k : Int) := by omega
  have hfL : ∃ ao c, lv = .slice ao n c := by
    rcases hL with ⟨rfl, rfl⟩ | ⟨a, c, rfl, _⟩
    · exact ⟨none, 0, by rw [hn]; rfl⟩
    · exact ⟨some a, c, by rw [hn]⟩
  have hfT : ∃ bo d, tv = .slice bo m d := by
    rcases hT with ⟨rfl, rfl⟩ | ⟨a, c, rfl, _⟩
    · exact ⟨none, 0, by rw [hm]; rfl⟩
    · exact ⟨some a, c, by rw [hm]⟩
  obtain ⟨ao, c, hlv⟩ := hfL
  obtain ⟨bo, d, htv⟩ := hfT
  have hnI : (n : Int) ≤ 4096 := by omega
  have hmI : (m : Int) ≤ 4096 := by omega
  have hkI : (k : Int) ≤ 4096 := by omega
  by_cases h0 : k = 0
  · have hz0 : cs = [] := List.length_eq_zero_iff.1 (hz.trans h0)
    have HZ := Lib.hid hz0
    rw [h0] at hmin
    clear hcz hL hT hz hk hz0 h0 hn hm h1 h2 hkI
    subst hlv htv
    go_enter Tryz.func51, Tryz.ntmps51
    go_wp2_with fail
    go_ret
    exact ⟨_, rfl, Upd.refl _ _, .inl ⟨HZ.out, rfl⟩⟩
  have h0I : ((k : Int) == 0) = false := by rw [beq_eq_false_iff_ne]; omega
  have hLc : ∀ j (hj : j < L.length), ∃ a, ao = some a ∧ w.cell? (a.add j) = some (.int .u64 (L[j] : Int)) := fun j hj => by
    rcases hL with ⟨_, rfl⟩ | ⟨a, c', e1, _, e3⟩
    · exact absurd hj (by simp)
    · rw [hlv] at e1
      injection e1 with e1 _ _
      exact ⟨a, e1, e3 j L[j] (List.getElem?_eq_getElem hj)⟩
  have hTc : ∀ j (hj : j < T.length), ∃ a, bo = some a ∧ w.cell? (a.add j) = some (.string T[j]) := fun j hj => by
    rcases hT with ⟨_, rfl⟩ | ⟨a, c', e1, _, e3⟩
    · exact absurd hj (by simp)
    · rw [htv] at e1
      injection e1 with e1 _ _
      exact ⟨a, e1, e3 j T[j] (List.getElem?_eq_getElem hj)⟩
  obtain ⟨a, rfl, ha0⟩ := hLc 0 (by omega)
  obtain ⟨b, rfl, hb0⟩ := hTc 0 (by omega)
  have hLc2 : ∀ j (hj : j < L.length), w.cell? (a.add j) = some (.int .u64 (L[j] : Int)) := fun j hj => by
    obtain ⟨a', e, h⟩ := hLc j hj
    obtain rfl := Option.some.inj e
    exact h
  have hTc2 : ∀ j (hj : j < T.length), w.cell? (b.add j) = some (.string T[j]) := fun j hj => by
    obtain ⟨a', e, h⟩ := hTc j hj
    obtain rfl := Option.some.inj e
    exact h
  obtain ⟨cur0, hcs, hmk⟩ := com_make w k (by omega)
  have hu1 : Upd (fun _ => False) w (w.alloc (.cells cur0 42)) := (Upd.refl _ w).alloc _
  have hN := heap_alloc_new w (.cells cur0 42)
  have HRd := Lib.hid (fun (W : World) (hW : Upd (fun k => k = w.heap.size) (w.alloc (.cells cur0 42)) W) (j : Nat) (hj : j < L.length) (hj2 : j < T.length) => show (W.cell? (a.add j) = some (.int .u64 (L[j] : Int)) ∧ W.cell? (b.add j) = some (.string T[j])) ∧ (a.add j).block ≠ w.heap.size ∧ (b.add j).block ≠ w.heap.size by
    have e1 := hLc2 j hj
    have e2 := World.block_lt_of_cell? w _ e1
    have e3 := hTc2 j hj2
    have e4 := World.block_lt_of_cell? w _ e3
    exact ⟨⟨hW.cell (hu1.cell e1 fun h => h) (by omega), hW.cell (hu1.cell e3 fun h => h) (by omega)⟩, by omega, by omega⟩)
  have HN := Lib.hid (And.intro hN (And.intro hcs (And.intro hu1 (And.intro hz (And.intro hk (And.intro hn (And.intro hm h0)))))))
  subst hlv htv
  clear hcz hL hT hLc hTc hLc2 hTc2 ha0 hb0 hN hcs hu1 hz hk hn hm h1 h2 h0
  go_enter Tryz.func51, Tryz.ntmps51
  go_wp2_with fail
  go_loopg [18] k (fun q v18 wr => ∃ (j : Nat) (cur : Array Value), v18 = .int .i64 (j : Int) ∧ j + q = k ∧ wr.heap[w.heap.size]? = some (.cells cur 42 (0, 0)) ∧ cur.size = 3 * k ∧
    (∀ (i : Nat) (hi : i < cs.length), i < j → cur[i * 3]? = some (.int .u32 0) ∧ cur[i * 3 + 1]? = some (.int .u32 (lcP (cs[i]'hi).1 : Int)) ∧ cur[i * 3 + 2]? = some (.string (cs[i]'hi).2)) ∧ Upd (fun k => k = w.heap.size) (w.alloc (.cells cur0 42)) wr)
  case atStart => exact ⟨0, cur0, rfl, by omega, HN.out.1, HN.out.2.1, fun i hi h => absurd h (by omega), Upd.refl _ _⟩
  case round =>
    obtain ⟨j, cur, rfl, hjk, hg, hsz, hpre, hu⟩ := hrel
    have HJ := Lib.hid hjk
    have HG := Lib.hid (And.intro hg (And.intro hsz (And.intro hpre hu)))
    by_cases hlt : j < k
    · have hltI : (j : Int) < (k : Int) := by omega
      have hjL : j < L.length := by have h1 := HN.out.2.2.2.2.1; have h2 := HN.out.2.2.2.2.2.1; omega
      have hjT : j < T.length := by have h1 := HN.out.2.2.2.2.1; have h2 := HN.out.2.2.2.2.2.2.1; omega
      have hjn : j < n := by have h1 := HN.out.2.2.2.2.2.1; omega
      have hjm : j < m := by have h1 := HN.out.2.2.2.2.2.2.1; omega
      have hjnI : (j : Int) < (n : Int) := by omega
      have hjmI : (j : Int) < (m : Int) := by omega
      obtain ⟨⟨c1, c2⟩, na, nb⟩ := HRd.out wr hu j hjL hjT
      have HNe := Lib.hid (And.intro na nb)
      clear na nb
      have hzj : cs[j]'(by rw [HN.out.2.2.2.1]; exact hlt) = (L[j], T[j]) := by
        have h1 := HCz.out
        subst h1
        exact List.getElem_zip ..
      obtain ⟨Ln, hLn⟩ : ∃ Ln, L[j]'hjL = Ln := ⟨_, rfl⟩
      obtain ⟨t, ht⟩ : ∃ t, T[j]'hjT = t := ⟨_, rfl⟩
      rw [hLn] at c1 hzj
      rw [ht] at c2 hzj
      obtain ⟨x0, e0⟩ : ∃ x, cur[j * 3]? = some x := ⟨_, Array.getElem?_eq_getElem (by omega)⟩
      obtain ⟨x1, e1⟩ : ∃ x, cur[j * 3 + 1]? = some x := ⟨_, Array.getElem?_eq_getElem (by omega)⟩
      obtain ⟨x2, e2⟩ : ∃ x, cur[j * 3 + 2]? = some x := ⟨_, Array.getElem?_eq_getElem (by omega)⟩
      have c3 : wr.cell? ⟨w.heap.size, j * 3, none⟩ = some x0 := (cell_at hg _).trans e0
      have c4 : wr.cell? ⟨w.heap.size, j * 3 + 1, none⟩ = some x1 := (cell_at hg _).trans e1
      have c5 : wr.cell? ⟨w.heap.size, j * 3 + 2, none⟩ = some x2 := (cell_at hg _).trans e2
      have f3 : wr.frozen? ⟨w.heap.size, j * 3, none⟩ = false := frozen_at hg _
      have f4 : wr.frozen? ⟨w.heap.size, j * 3 + 1, none⟩ = false := frozen_at hg _
      have f5 : wr.frozen? ⟨w.heap.size, j * 3 + 2, none⟩ = false := frozen_at hg _
      have HNp := Lib.hid (fun W => new_pos 0 Ln (by omega) W)
      have HZj := Lib.hid hzj
      clear hjk hg hsz hpre hu hzj hLn ht e0 e1 e2
      go_wp2_with fail
      refine wp_region_held_drew (S := fun W => W.cell? (a.add j) = some (.int .u64 (Ln : Int)) ∧ W.cell? (b.add j) = some (.string t)) (by kernel_rfl) ⟨c1, c2⟩ (fun hHeld => ?_)
      refine wpAnyH_take (i := 0) (v := ?vm0) rfl (by kernel_rfl) (by kernel_rfl) (by kernel_rfl) (fun _ _ _ h => h) (Or.inl ⟨by rfl, ?hm0⟩) (by assumption) ?rm0
      case hm0 => (intro w hSw; (try dsimp only at hSw); go_simp; try with_reducible rfl)
      try simp only [List.getElem_toArray, List.getElem_cons_zero, Act.put, List.setIfInBounds_toArray, List.set_cons_zero, List.set_cons_succ]
      refine wpAnyH_take (i := 1) (v := ?vm1) rfl (by kernel_rfl) (by kernel_rfl) (by kernel_rfl) (fun _ _ _ h => h) (Or.inl ⟨by rfl, ?hm1⟩) (by assumption) ?rm1
      case hm1 => (intro w hSw; (try dsimp only at hSw); go_simp; try with_reducible rfl)
      try simp only [List.getElem_toArray, List.getElem_cons_zero, List.getElem_cons_succ, Act.put, List.setIfInBounds_toArray, List.set_cons_zero, List.set_cons_succ]
      refine wpAnyH_take (i := 2) (v := ?vm2) rfl (by kernel_rfl) (by kernel_rfl) (by kernel_rfl) (fun _ _ _ h => h) (Or.inl ⟨by rfl, ?hm2⟩) (by assumption) ?rm2
      case hm2 => (intro w hSw; (try dsimp only at hSw); go_simp; try with_reducible rfl)
      try simp only [List.getElem_toArray, List.getElem_cons_zero, List.getElem_cons_succ, Act.put, List.setIfInBounds_toArray, List.set_cons_zero, List.set_cons_succ]
      refine wpAnyH_take (i := 3) (v := ?vm3) rfl (by kernel_rfl) (by kernel_rfl) (by kernel_rfl) (fun _ _ _ h => h) (Or.inl ⟨by rfl, ?hm3⟩) (by assumption) ?rm3
      case hm3 => (intro w hSw; (try dsimp only at hSw); go_simp; try with_reducible rfl)
      try simp only [List.getElem_toArray, List.getElem_cons_zero, List.getElem_cons_succ, Act.put, List.setIfInBounds_toArray, List.set_cons_zero, List.set_cons_succ]
      refine wpAnyH_take (i := 4) (v := ?vm4) rfl (by kernel_rfl) (by kernel_rfl) (by kernel_rfl) (fun _ _ _ h => h) (Or.inl ⟨by rfl, ?hm4⟩) (by assumption) ?rm4
      case hm4 => (intro w hSw; (try dsimp only at hSw); go_simp; try with_reducible rfl)
      try simp only [List.getElem_toArray, List.getElem_cons_zero, List.getElem_cons_succ, Act.put, List.setIfInBounds_toArray, List.set_cons_zero, List.set_cons_succ]
      refine wpAnyH_take (i := 5) (v := ?vm5) rfl (by kernel_rfl) (by kernel_rfl) (by kernel_rfl) (fun _ _ _ h => h) (Or.inl ⟨by rfl, ?hm5⟩) (by assumption) ?rm5
      case hm5 => (intro w hSw; (try dsimp only at hSw); go_simp; try with_reducible rfl)
      try simp only [List.getElem_toArray, List.getElem_cons_zero, List.getElem_cons_succ, Act.put, List.setIfInBounds_toArray, List.set_cons_zero, List.set_cons_succ]
      refine wpAnyH_take (i := 7) (v := ?vm7) rfl (by kernel_rfl) (by kernel_rfl) (by kernel_rfl) (fun _ _ _ h => h) (Or.inl ⟨by rfl, ?hm7⟩) (by assumption) ?rm7
      case hm7 => (intro w hSw; (try dsimp only at hSw); go_simp; try with_reducible rfl)
      try simp only [List.getElem_toArray, List.getElem_cons_zero, List.getElem_cons_succ, Act.put, List.setIfInBounds_toArray, List.set_cons_zero, List.set_cons_succ]
      refine wpAnyH_take (i := 8) (v := ?vm8) rfl (by kernel_rfl) (by kernel_rfl) (by kernel_rfl) (fun _ _ _ h => h) (Or.inl ⟨by rfl, ?hm8⟩) (by assumption) ?rm8
      case hm8 => (intro w hSw; (try dsimp only at hSw); go_simp; try with_reducible rfl)
      try simp only [List.getElem_toArray, List.getElem_cons_zero, List.getElem_cons_succ, Act.put, List.setIfInBounds_toArray, List.set_cons_zero, List.set_cons_succ]
      refine wpAnyH_take (i := 9) (v := ?vm9) rfl (by kernel_rfl) (by kernel_rfl) (by kernel_rfl) (fun _ _ _ h => h) (Or.inl ⟨by rfl, ?hm9⟩) (by assumption) ?rm9
      case hm9 => (intro w hSw; (try dsimp only at hSw); go_simp; try with_reducible rfl)
      try simp only [List.getElem_toArray, List.getElem_cons_zero, List.getElem_cons_succ, Act.put, List.setIfInBounds_toArray, List.set_cons_zero, List.set_cons_succ]
      refine wpAnyH_take (i := 10) (v := ?vm10) rfl (by kernel_rfl) (by kernel_rfl) (by kernel_rfl) (fun _ _ _ h => h) (Or.inl ⟨by rfl, ?hm10⟩) (by assumption) ?rm10
      case hm10 => (intro w hSw; (try dsimp only at hSw); go_simp; try with_reducible rfl)
      try simp only [List.getElem_toArray, List.getElem_cons_zero, List.getElem_cons_succ, Act.put, List.setIfInBounds_toArray, List.set_cons_zero, List.set_cons_succ]
      refine wpAnyH_ready (rs := [6]) (by kernel_rfl) (by simp) ?_
      refine AllReadyH.cons rfl (fun K hK => ?_) AllReadyH.nil
      go_simp
      go_wp2_with (go_at_call 124; refine (HNp.out _).mono ?_; rintro e w5 ⟨rfl, hu5⟩
                   have k1 := hu5.cell (show wr.drew.cell? (a.add j) = _ from c1) fun h => h
                   have k2 := hu5.cell (show wr.drew.cell? (b.add j) = _ from c2) fun h => h
                   have k3 := hu5.cell (show wr.drew.cell? ⟨w.heap.size, j * 3, none⟩ = _ from c3) fun h => h
                   have k4 := hu5.cell (show wr.drew.cell? ⟨w.heap.size, j * 3 + 1, none⟩ = _ from c4) fun h => h
                   have k5 := hu5.cell (show wr.drew.cell? ⟨w.heap.size, j * 3 + 2, none⟩ = _ from c5) fun h => h
                   have k6 := (hu5.frozen (p := ⟨w.heap.size, j * 3, none⟩) (World.block_lt_of_cell? _ _ (show wr.drew.cell? ⟨w.heap.size, j * 3, none⟩ = _ from c3)) fun h => h).trans (show wr.drew.frozen? ⟨w.heap.size, j * 3, none⟩ = _ from f3)
                   have k7 := (hu5.frozen (p := ⟨w.heap.size, j * 3 + 1, none⟩) (World.block_lt_of_cell? _ _ (show wr.drew.cell? ⟨w.heap.size, j * 3 + 1, none⟩ = _ from c4)) fun h => h).trans (show wr.drew.frozen? ⟨w.heap.size, j * 3 + 1, none⟩ = _ from f4)
                   have k8 := (hu5.frozen (p := ⟨w.heap.size, j * 3 + 2, none⟩) (World.block_lt_of_cell? _ _ (show wr.drew.cell? ⟨w.heap.size, j * 3 + 2, none⟩ = _ from c5)) fun h => h).trans (show wr.drew.frozen? ⟨w.heap.size, j * 3 + 2, none⟩ = _ from f5)
                   have HU5 := Lib.hid ((Upd.refl (fun _ => False) wr).drew.trans hu5)
                   clear hu5)
      refine hK.out _ _ ⟨k1, k2⟩ (fun hS => ?_)
      clear hK K
      try simp only [List.getElem_toArray, List.getElem_cons_zero, List.getElem_cons_succ, Act.put, List.setIfInBounds_toArray, List.set_cons_zero, List.set_cons_succ]
      refine wpAnyH_take (i := 11) (v := ?vm11) rfl (by kernel_rfl) (by kernel_rfl) (by kernel_rfl) (fun _ _ _ h => h) (Or.inl ⟨by rfl, ?hm11⟩) (by assumption) ?rm11
      case hm11 => (intro w hSw; (try dsimp only at hSw); go_simp; try with_reducible rfl)
      try simp only [List.getElem_toArray, List.getElem_cons_zero, List.getElem_cons_succ, Act.put, List.setIfInBounds_toArray, List.set_cons_zero, List.set_cons_succ]
      refine wpAnyH_take (i := 12) (v := ?vm12) rfl (by kernel_rfl) (by kernel_rfl) (by kernel_rfl) (fun _ _ _ h => h) (Or.inl ⟨by rfl, ?hm12⟩) (by assumption) ?rm12
      case hm12 => (intro w hSw; (try dsimp only at hSw); go_simp; try with_reducible rfl)
      try simp only [List.getElem_toArray, List.getElem_cons_zero, List.getElem_cons_succ, Act.put, List.setIfInBounds_toArray, List.set_cons_zero, List.set_cons_succ]
      refine wpAnyH_ready (rs := [13]) (by kernel_rfl) (by simp) ?_
      refine AllReadyH.cons rfl (fun K hK => ?_) AllReadyH.nil
      rw [if_pos (by rfl)]
      go_simp
      refine hK.out _ _ ?gS (fun hS => ?_)
      case gS =>
        have hu8 : Upd (fun k => k = w.heap.size) w5 (((w5.setCell ⟨w.heap.size, j * 3, none⟩ (.int .u32 0)).setCell ⟨w.heap.size, j * 3 + 1, none⟩ (.int .u32 (lcP Ln : Int))).setCell ⟨w.heap.size, j * 3 + 2, none⟩ (.string t)) :=
          (((Upd.refl (fun k => k = w.heap.size) w5).setCell (p := ⟨w.heap.size, j * 3, none⟩) (.inl rfl) _).setCell (p := ⟨w.heap.size, j * 3 + 1, none⟩) (.inl rfl) _).setCell (p := ⟨w.heap.size, j * 3 + 2, none⟩) (.inl rfl) _
        exact ⟨hu8.cell k1 HNe.out.1, hu8.cell k2 HNe.out.2⟩
      clear hK K
      try simp only [List.getElem_toArray, List.getElem_cons_zero, List.getElem_cons_succ, Act.put, List.setIfInBounds_toArray, List.set_cons_zero, List.set_cons_succ]
      refine wpAnyH_done (by kernel_rfl) ?_ _
      go_wp2_with fail
      go_roundg (k - (j + 1))
      case measure => have := HJ.out; omega
      case rel =>
        obtain ⟨hg, hsz, hpre, hu⟩ := HG.out
        have hne : ∀ (p q : Nat) (x : Value) (A : Array Value), p ≠ q → (A.setIfInBounds p x)[q]? = A[q]? := fun p q x A h => Array.getElem?_setIfInBounds_ne h
        have hself : ∀ (p : Nat) (x : Value) (A : Array Value), p < A.size → (A.setIfInBounds p x)[p]? = some x := fun p x A h => by rw [Array.getElem?_setIfInBounds_self, if_pos h]
        have hg5 := HU5.out.heap hg fun h => h
        have hzk := HN.out.2.2.2.1
        refine ⟨j + 1, ((cur.setIfInBounds (j * 3) (.int .u32 0)).setIfInBounds (j * 3 + 1) (.int .u32 (lcP Ln : Int))).setIfInBounds (j * 3 + 2) (.string t), by go_num, by have := HJ.out; omega, heap_setCell_at _ (heap_setCell_at _ (heap_setCell_at _ hg5)), by simpa using hsz, fun i hi hij => ?_, ?_⟩
        · by_cases hij2 : i = j
          · subst hij2
            rw [HZj.out]
            refine ⟨?_, ?_, ?_⟩
            · rw [hne _ _ _ _ (by omega), hne _ _ _ _ (by omega), hself _ _ _ (by omega)]
            · rw [hne _ _ _ _ (by omega), hself _ _ _ (by rw [Array.size_setIfInBounds]; omega)]
            · rw [hself _ _ _ (by simp only [Array.size_setIfInBounds]; omega)]
          · have h1 := hpre i hi (by omega)
            refine ⟨?_, ?_, ?_⟩
            · rw [hne _ _ _ _ (by omega), hne _ _ _ _ (by omega), hne _ _ _ _ (by omega)]; exact h1.1
            · rw [hne _ _ _ _ (by omega), hne _ _ _ _ (by omega), hne _ _ _ _ (by omega)]; exact h1.2.1
            · rw [hne _ _ _ _ (by omega), hne _ _ _ _ (by omega), hne _ _ _ _ (by omega)]; exact h1.2.2
        · exact (((hu.trans (HU5.out.mono fun _ h => h.elim)).setCell (p := ⟨w.heap.size, j * 3, none⟩) (.inl rfl) _).setCell (p := ⟨w.heap.size, j * 3 + 1, none⟩) (.inl rfl) _).setCell (p := ⟨w.heap.size, j * 3 + 2, none⟩) (.inl rfl) _
    · obtain rfl : j = k := by omega
      have hltI : ¬ (j : Int) < (j : Int) := by omega
      clear hg hsz hpre hu hjk
      go_wp2_with fail
      go_ret
      obtain ⟨hg, hsz, hpre, hu⟩ := HG.out
      obtain ⟨_, _, hu1, hz, _, _, _, h0⟩ := HN.out
      refine ⟨.slice (some ⟨w.heap.size, 0, none⟩) j j, rfl, hu1.trans' hu fun q hq => .inr (by omega), .inr ⟨by omega, w.heap.size, by rw [hz], Nat.le_refl _, ?_⟩⟩
      rw [← rows_of (cs := cs) (cur := cur) (by rw [hz]; exact hsz) fun i hi => hpre i hi (by omega)]
      exact hg
end Go.Proofs.YtmdkpihlhdjjaaaGreatFmt
