/-
  n010_67: a script of options: the copy of the script, the options applied one by one, the flags and the writer read back.
-/
import Derived.Test.YtdfgcopelfmcmaaGreatFmtN67A
namespace Go.Proofs.YtdfgcopelfmcmaaGreatFmt
open Go.RowKit

/-- A readable slice of bools. -/
def BoolsRd (w : World) (v : Value) (L : List Bool) : Prop :=
  (v = .slice none 0 0 ∧ L = []) ∨ ∃ (a : Addr) (c : Nat), v = .slice (some a) L.length c ∧ L.length ≤ c ∧ ∀ (j : Nat) (b : Bool), L[j]? = some b → w.cell? (a.add j) = some (.bool b)

theorem add_block (a : Addr) (j : Nat) : (a.add j).block = a.block := by unfold Addr.add; split <;> rfl

theorem BoolsRd.stable {w w' : World} {v : Value} {L : List Bool} {F : Nat → Prop} (h : BoolsRd w v L) (hu : Upd F w w') (hF : ∀ k, F k → w.heap.size ≤ k) : BoolsRd w' v L := by
  rcases h with h | ⟨a, c, h1, h2, h3⟩
  · exact .inl h
  · refine .inr ⟨a, c, h1, h2, fun j b hj => hu.cell (h3 j b hj) fun hf => ?_⟩
    have h4 := World.block_lt_of_cell? w _ (h3 j b hj)
    have h5 := hF _ hf
    rw [add_block] at h4 h5
    omega

set_option maxRecDepth 100000 in
set_option maxHeartbeats 2000000 in
theorem copy_bools {w : World} {v : Value} {L : List Bool} (h : BoolsRd w v L) (hl : L.length ≤ 4096) :
    Calls Tryz.prog 12 #[v] w fun e w' => ∃ v', e = .returned v' ∧ BoolsRd w' v' L ∧ Upd (fun _ => False) w w' := by
  rcases h with ⟨rfl, rfl⟩ | ⟨a, c, rfl, hlc, hrd⟩
  · have hsl : ∀ w, (binOp .eql 26 (.slice none 0 0) (.slice none 0 0)).run Tryz.prog w = .ok (.bool true) w := fun w => by kernel_rfl
    clear hl
    go_enter Tryz.func12, Tryz.ntmps12
    go_wp2
    go_ret
    exact ⟨_, rfl, .inl ⟨rfl, rfl⟩, Upd.refl _ w⟩
  · obtain ⟨n, hn⟩ : ∃ n, n = L.length := ⟨_, rfl⟩
    have hsl : ∀ w, (binOp .eql 26 (.slice (some a) n c) (.slice none 0 0)).run Tryz.prog w = .ok (.bool false) w := fun w => by kernel_rfl
    obtain ⟨cur0, hcs, hmk⟩ : ∃ cur : Array Value, cur.size = n ∧ (Instr.makeSlice 26 (.int .i64 (n : Int)) (.int .i64 (n : Int))).run Tryz.prog w = .ok (.slice (some ⟨w.heap.size, 0, none⟩) n n) (w.alloc (.cells cur 4)) := by
      obtain ⟨i, hi, hz, hsz, hby⟩ : ∃ i, Tryz.prog.info? 4 = some i ∧ i.zero = some (.bool false) ∧ i.size = 1 ∧ i.bytes = 1 := ⟨_, rfl, rfl, rfl, rfl⟩
      refine ⟨_, ?_, run_make w 26 4 i _ Tryz.underlying26 hi hz .i64 .i64 n n (by omega) (by omega) (by rw [hby]; omega) (by omega)⟩
      rw [hsz]
      simp [size_madeCells]
    rw [← hn] at hl ⊢
    have hnI : (n : Int) ≤ 4096 := by omega
    have hu1 : Upd (fun _ => False) w (w.alloc (.cells cur0 4)) := (Upd.refl _ w).alloc _
    have hN := heap_alloc_new w (.cells cur0 4)
    have HRd := Lib.hid (fun (W : World) (hW : Upd (fun k => k = w.heap.size) (w.alloc (.cells cur0 4)) W) (j : Nat) (hj : j < L.length) => show W.cell? (a.add j) = some (.bool L[j]) by
      have h1 := hrd j L[j] (List.getElem?_eq_getElem hj)
      have h2 := World.block_lt_of_cell? w _ h1
      exact hW.cell (hu1.cell h1 fun h => h) (by omega))
    have HN := Lib.hid hN
    have HCs := Lib.hid hcs
    have HU1 := Lib.hid hu1
    have Hn := Lib.hid hn
    clear hrd hN hcs hu1 hn hlc
    go_enter Tryz.func12, Tryz.ntmps12
    go_wp2_with fail
    go_loopg [4] n (fun k v4 wr => ∃ (j : Nat) (cur : Array Value), v4 = .int .i64 (j : Int) ∧ j + k = n ∧ wr.heap[w.heap.size]? = some (.cells cur 4 (0, 0)) ∧ cur.size = n ∧ (∀ i b, i < j → L[i]? = some b → cur[i]? = some (.bool b)) ∧ Upd (fun k => k = w.heap.size) (w.alloc (.cells cur0 4)) wr)
    case atStart => exact ⟨0, cur0, rfl, by omega, HN.out, HCs.out, fun i b hi => absurd hi (by omega), Upd.refl _ _⟩
    case round =>
      obtain ⟨j, cur, rfl, hjk, hg, hsz, hpre, hu⟩ := hrel
      have HJ := Lib.hid hjk; clear hjk
      have HG := Lib.hid (And.intro hg (And.intro hsz (And.intro hpre hu)))
      by_cases hlt : j < n
      · have hltI : (j : Int) < (n : Int) := by omega
        have hjL : j < L.length := by have := Hn.out; omega
        have c1 := HRd.out wr hu j hjL
        have c2 : wr.cell? ⟨w.heap.size, j, none⟩ = some (cur[j]'(by omega)) := by rw [cell_at hg, Array.getElem?_eq_getElem]
        have f2 : wr.frozen? ⟨w.heap.size, j, none⟩ = false := frozen_at hg j
        clear hg hpre hu
        go_wp2_with fail
        go_roundg (n - (j + 1))
        case measure => have := HJ.out; omega
        case rel =>
          obtain ⟨hg, hsz, hpre, hu⟩ := HG.out
          refine ⟨j + 1, cur.setIfInBounds j (.bool L[j]), by go_num, by omega, heap_setCell_at _ hg, by simpa using hsz, fun i b hi hb => ?_, hu.setCell (p := ⟨w.heap.size, j, none⟩) (.inl rfl) _⟩
          by_cases hij : i = j
          · subst hij
            rw [Array.getElem?_setIfInBounds_self, if_pos (by omega)]
            rw [List.getElem?_eq_getElem hjL] at hb
            rw [Option.some.inj hb]
          · rw [Array.getElem?_setIfInBounds_ne (by omega)]
            exact hpre i b (by omega) hb
      · obtain rfl : j = n := by have := HJ.out; omega
        clear hg hsz hpre hu
        go_wp2_with fail
        go_ret
        obtain ⟨hg, hsz, hpre, hu⟩ := HG.out
        refine ⟨.slice (some ⟨w.heap.size, 0, none⟩) j j, rfl, .inr ⟨⟨w.heap.size, 0, none⟩, j, by rw [← Hn.out], by rw [← Hn.out]; exact Nat.le_refl _, fun i b hi => ?_⟩, ?_⟩
        · rw [Addr.add_base, cell_at hg]
          have : i < L.length := (List.getElem?_eq_some_iff.1 hi).1
          exact hpre i b (by have := Hn.out; omega) hi
        · exact HU1.out.trans' hu fun k hk => .inr (by omega)

set_option maxRecDepth 100000 in
set_option maxHeartbeats 1000000 in
theorem apply_mi (v : Bool) {pb b tb : Nat} {s : PS} {w : World} {O : Nat → Prop} (h : PrAny pb b tb s w O) :
    Calls Tryz.prog 33 #[.pointer (some ⟨pb, 0, none⟩), .bool v] w fun e w' => e = .returned (.tuple #[]) ∧ PrAny pb b tb (optMi v s) w' O ∧ Upd O w w' := by
  have hlt := h.lt
  have hu : Upd (fun _ => False) w (w.alloc (.cells #[.bool v] 4)) := (Upd.refl _ w).alloc _
  obtain ⟨Q, HQ, HC⟩ := callsVar (mi_opt w.heap.size v (h.stable hu fun _ _ h => h) (cell_at (heap_alloc_new w _) 0) (fun e => by have := hlt _ e; omega))
  have HU := Lib.hid hu
  have HOwn := Lib.hid h.own
  clear h hlt hu
  go_enter Tryz.func33, Tryz.ntmps33
  go_wp2_with (first
    | (go_at_call 28; refine (mk_mi _ _).mono ?_; rintro e w1 ⟨rfl, rfl⟩)
    | (go_at_call 43; refine HC.out.mono ?_))
  rintro e w2 hq
  obtain ⟨rfl, h1, h2⟩ := HQ.out e w2 hq
  clear hq
  have H1 := Lib.hid (And.intro h1 h2)
  clear h1 h2
  go_wp2_with fail
  go_end0
  exact ⟨rfl, H1.out.1, (HU.out.mono fun _ h => h.elim).trans (H1.out.2.mono fun k hk => by subst hk; exact HOwn.out)⟩

theorem results_tmp4 {fn : Func} {t u v x : Tmp} (h : fn.results = #[.tmp t, .tmp u, .tmp v, .tmp x]) (tmps : Array Value) (P : Program) (w : World) :
    (results fn tmps).run P w = .ok (.tuple #[tmps.getD t undef, tmps.getD u undef, tmps.getD v undef, tmps.getD x undef]) w := by
  simp [results, h]

set_option maxRecDepth 100000 in
set_option maxHeartbeats 1000000 in
theorem read_flags {pb b tb : Nat} {s : PS} {w : World} {O : Nat → Prop} (h : PrAny pb b tb s w O) :
    Calls Tryz.prog 18 #[.pointer (some ⟨pb, 0, none⟩)] w fun e w' => e = .returned (.tuple #[.bool s.kp, .bool s.mi, .bool s.si, .bool s.fnl]) ∧ Upd (fun _ => False) w w' := by
  have hp := h.pcell
  have c9 : w.cell? ⟨pb, 9, none⟩ = some (.bool s.kp) := hp.at 9
  have c10 : w.cell? ⟨pb, 10, none⟩ = some (.bool s.mi) := hp.at 10
  have c11 : w.cell? ⟨pb, 11, none⟩ = some (.bool s.si) := hp.at 11
  have c12 : w.cell? ⟨pb, 12, none⟩ = some (.bool s.fnl) := hp.at 12
  clear h hp
  go_enter Tryz.func18, Tryz.ntmps18
  go_wp2_with fail
  go_quiet (fail)
  go_wp2_with fail
  refine bodyPost_ret (results_tmp4 rfl _ _ _) rfl ⟨rfl, ?_⟩
  · first | exact (Upd.refl _ w).drewN _ | exact (Upd.refl _ w).drew | exact Upd.refl _ w

set_option maxRecDepth 100000 in
set_option maxHeartbeats 1000000 in
theorem apply_si (v : Bool) {pb b tb : Nat} {s : PS} {w : World} {O : Nat → Prop} (h : PrAny pb b tb s w O) :
    Calls Tryz.prog 34 #[.pointer (some ⟨pb, 0, none⟩), .bool v] w fun e w' => e = .returned (.tuple #[]) ∧ PrAny pb b tb (optSi v s) w' O ∧ Upd O w w' := by
  have hlt := h.lt
  have hu : Upd (fun _ => False) w (w.alloc (.cells #[.bool v] 4)) := (Upd.refl _ w).alloc _
  obtain ⟨Q, HQ, HC⟩ := callsVar (si_opt w.heap.size v (h.stable hu fun _ _ h => h) (cell_at (heap_alloc_new w _) 0) (fun e => by have := hlt _ e; omega))
  have HU := Lib.hid hu
  have HOwn := Lib.hid h.own
  clear h hlt hu
  go_enter Tryz.func34, Tryz.ntmps34
  go_wp2_with (first
    | (go_at_call 29; refine (mk_si _ _).mono ?_; rintro e w1 ⟨rfl, rfl⟩)
    | (go_at_call 44; refine HC.out.mono ?_))
  rintro e w2 hq
  obtain ⟨rfl, h1, h2⟩ := HQ.out e w2 hq
  clear hq
  have H1 := Lib.hid (And.intro h1 h2)
  clear h1 h2
  go_wp2_with fail
  go_end0
  exact ⟨rfl, H1.out.1, (HU.out.mono fun _ h => h.elim).trans (H1.out.2.mono fun k hk => by subst hk; exact HOwn.out)⟩

set_option maxRecDepth 100000 in
set_option maxHeartbeats 1000000 in
theorem apply_fn (v : Bool) {pb b tb : Nat} {s : PS} {w : World} {O : Nat → Prop} (h : PrAny pb b tb s w O) :
    Calls Tryz.prog 35 #[.pointer (some ⟨pb, 0, none⟩), .bool v] w fun e w' => e = .returned (.tuple #[]) ∧ PrAny pb b tb (optFn v s) w' O ∧ Upd O w w' := by
  have hlt := h.lt
  have hu : Upd (fun _ => False) w (w.alloc (.cells #[.bool v] 4)) := (Upd.refl _ w).alloc _
  obtain ⟨Q, HQ, HC⟩ := callsVar (fn_opt w.heap.size v (h.stable hu fun _ _ h => h) (cell_at (heap_alloc_new w _) 0) (fun e => by have := hlt _ e; omega))
  have HU := Lib.hid hu
  have HOwn := Lib.hid h.own
  clear h hlt hu
  go_enter Tryz.func35, Tryz.ntmps35
  go_wp2_with (first
    | (go_at_call 24; refine (mk_fn _ _).mono ?_; rintro e w1 ⟨rfl, rfl⟩)
    | (go_at_call 39; refine HC.out.mono ?_))
  rintro e w2 hq
  obtain ⟨rfl, h1, h2⟩ := HQ.out e w2 hq
  clear hq
  have H1 := Lib.hid (And.intro h1 h2)
  clear h1 h2
  go_wp2_with fail
  go_end0
  exact ⟨rfl, H1.out.1, (HU.out.mono fun _ h => h.elim).trans (H1.out.2.mono fun k hk => by subst hk; exact HOwn.out)⟩

set_option maxRecDepth 100000 in
set_option maxHeartbeats 1000000 in
theorem apply_kp (v : Bool) {pb b tb : Nat} {s : PS} {w : World} {O : Nat → Prop} (h : PrAny pb b tb s w O) :
    Calls Tryz.prog 17 #[.pointer (some ⟨pb, 0, none⟩), .bool v] w fun e w' => e = .returned (.tuple #[]) ∧ PrAny pb b tb (optKp v s) w' O ∧ Upd O w w' := by
  have hlt := h.lt
  have hu : Upd (fun _ => False) w (w.alloc (.cells #[.bool v] 4)) := (Upd.refl _ w).alloc _
  obtain ⟨Q, HQ, HC⟩ := callsVar (kp_opt w.heap.size v (h.stable hu fun _ _ h => h) (cell_at (heap_alloc_new w _) 0) (fun e => by have := hlt _ e; omega))
  have HU := Lib.hid hu
  have HOwn := Lib.hid h.own
  clear h hlt hu
  go_enter Tryz.func17, Tryz.ntmps17
  go_wp2_with (first
    | (go_at_call 27; refine (mk_kp _ _).mono ?_; rintro e w1 ⟨rfl, rfl⟩)
    | (go_at_call 42; refine HC.out.mono ?_))
  rintro e w2 hq
  obtain ⟨rfl, h1, h2⟩ := HQ.out e w2 hq
  clear hq
  have H1 := Lib.hid (And.intro h1 h2)
  clear h1 h2
  go_wp2_with fail
  go_end0
  exact ⟨rfl, H1.out.1, (HU.out.mono fun _ h => h.elim).trans (H1.out.2.mono fun k hk => by subst hk; exact HOwn.out)⟩

set_option maxRecDepth 100000 in
set_option maxHeartbeats 1000000 in
theorem is_col {pb b tb : Nat} {s : PS} {w : World} {O : Nat → Prop} (h : PrAny pb b tb s w O) :
    Calls Tryz.prog 19 #[.pointer (some ⟨pb, 0, none⟩)] w fun e w' => e = .returned (.bool s.kp) ∧ w' = w := by
  have hp := h.pcell
  have h0 := hp.at 0
  have hs := fun v w => asrt_same (P := Tryz.prog) Tryz.underlying67 58 v w
  have ho := fun v w => asrt_other (P := Tryz.prog) (t := 60) Tryz.underlying67 (by kernel_rfl) (by decide) 58 v w
  cases hkp : s.kp
  · have c0 : w.cell? ⟨pb, 0, none⟩ = some (.iface 60 (.pointer (some ⟨b, 0, none⟩))) := by rw [h0, hkp]; rfl
    clear h hp h0
    go_enter Tryz.func19, Tryz.ntmps19
    go_wp2
    go_ret
    exact ⟨rfl, rfl⟩
  · have c0 : w.cell? ⟨pb, 0, none⟩ = some (.iface 67 (.pointer (some ⟨pb, 2, none⟩))) := by rw [h0, hkp]; rfl
    clear h hp h0
    go_enter Tryz.func19, Tryz.ntmps19
    go_wp2
    go_ret
    exact ⟨rfl, rfl⟩

set_option maxRecDepth 100000 in
set_option maxHeartbeats 1000000 in
theorem is_bufio {pb b tb : Nat} {s : PS} {w : World} {O : Nat → Prop} (h : PrAny pb b tb s w O) :
    Calls Tryz.prog 20 #[.pointer (some ⟨pb, 0, none⟩)] w fun e w' => e = .returned (.bool (!s.kp)) ∧ w' = w := by
  have hp := h.pcell
  have h0 := hp.at 0
  have hs := fun v w => asrt_same (P := Tryz.prog) Tryz.underlying60 58 v w
  have ho := fun v w => asrt_other (P := Tryz.prog) (t := 67) Tryz.underlying60 (by kernel_rfl) (by decide) 58 v w
  cases hkp : s.kp
  · have c0 : w.cell? ⟨pb, 0, none⟩ = some (.iface 60 (.pointer (some ⟨b, 0, none⟩))) := by rw [h0, hkp]; rfl
    clear h hp h0
    go_enter Tryz.func20, Tryz.ntmps20
    go_wp2
    go_ret
    exact ⟨rfl, rfl⟩
  · have c0 : w.cell? ⟨pb, 0, none⟩ = some (.iface 67 (.pointer (some ⟨pb, 2, none⟩))) := by rw [h0, hkp]; rfl
    clear h hp h0
    go_enter Tryz.func20, Tryz.ntmps20
    go_wp2
    go_ret
    exact ⟨rfl, rfl⟩
end Go.Proofs.YtdfgcopelfmcmaaGreatFmt
