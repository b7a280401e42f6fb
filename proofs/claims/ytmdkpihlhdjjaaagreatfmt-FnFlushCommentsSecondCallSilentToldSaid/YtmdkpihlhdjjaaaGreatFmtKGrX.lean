/-
  n010_157: copies of slices.
  Rows of values of one cell each that the program makes by append, one value after another.
  n010_157.FnFlushCommentsLayout: the bound on the input's length.
-/
import Derived.Test.YtmdkpihlhdjjaaaGreatFmtKTwCX
import Derived.Deep.LoopGhost
import Derived.Test.YtmdkpihlhdjjaaaGreatFmtKMaX
import GoSem.ClaimData
namespace Go.Proofs.YtmdkpihlhdjjaaaGreatFmt
open Go.RowKit

/-- A row of small numbers in a block that is said. -/
def CpRow (w : World) (v : Value) (ks : List Nat) : Prop :=
  (v = .slice none 0 0 ∧ ks = []) ∨ ∃ g : Nat, v = .slice (some ⟨g, 0, none⟩) ks.length ks.length ∧ ∀ (j : Nat) (k : Nat), ks[j]? = some k → w.cell? ⟨g, j, none⟩ = some (.int .u8 (k : Int))
theorem CpRow.rd {w : World} {v : Value} {ks : List Nat} (h : CpRow w v ks) : KsRd w v ks := by
  rcases h with h | ⟨g, h1, h2⟩
  · exact .inl h
  · exact .inr ⟨⟨g, 0, none⟩, ks.length, h1, Nat.le_refl _, fun j k hj => by rw [Addr.add_base]; exact h2 j k hj⟩
theorem CpRow.form {w : World} {v : Value} {ks : List Nat} (h : CpRow w v ks) : ∃ ao c, v = .slice ao ks.length c := by
  rcases h with ⟨h1, h2⟩ | ⟨g, h1, h2⟩
  · exact ⟨none, 0, by rw [h1, h2]; rfl⟩
  · exact ⟨_, _, h1⟩
theorem CpRow.one {w : World} {v : Value} {k : Nat} (h : CpRow w v [k]) : ∃ g : Nat, v = .slice (some ⟨g, 0, none⟩) 1 1 ∧ w.cell? ⟨g, 0, none⟩ = some (.int .u8 (k : Int)) := by
  rcases h with ⟨h1, h2⟩ | ⟨g, h1, h2⟩
  · cases h2
  · exact ⟨g, h1, h2 0 k rfl⟩


set_option maxRecDepth 100000 in
set_option maxHeartbeats 2000000 in
theorem cp_uints157 {w : World} {v : Value} {L : List Nat} (h : UintsRd w v L) (hl : L.length ≤ 1048576) :
    Calls Tryz.prog 15 #[v] w fun e w' => ∃ v', e = .returned v' ∧ UintsRd w' v' L ∧ Upd (fun _ => False) w w' := by
  rcases h with ⟨rfl, rfl⟩ | ⟨a, c, rfl, hlc, hrd⟩
  · have hsl : ∀ w, (binOp .eql 43 (.slice none 0 0) (.slice none 0 0)).run Tryz.prog w = .ok (.bool true) w := fun w => by kernel_rfl
    clear hl
    go_enter Tryz.func15, Tryz.ntmps15
    go_wp2
    go_ret
    exact ⟨_, rfl, .inl ⟨rfl, rfl⟩, Upd.refl _ w⟩
  · obtain ⟨n, hn⟩ : ∃ n, n = L.length := ⟨_, rfl⟩
    have hsl : ∀ w, (binOp .eql 43 (.slice (some a) n c) (.slice none 0 0)).run Tryz.prog w = .ok (.bool false) w := fun w => by kernel_rfl
    obtain ⟨cur0, hcs, hmk⟩ : ∃ cur : Array Value, cur.size = n ∧ (Instr.makeSlice 43 (.int .i64 (n : Int)) (.int .i64 (n : Int))).run Tryz.prog w = .ok (.slice (some ⟨w.heap.size, 0, none⟩) n n) (w.alloc (.cells cur 22)) := by
      obtain ⟨i, z, hi, hz, hzs, hsz, hby⟩ : ∃ i z, Tryz.prog.info? 22 = some i ∧ i.zero = some z ∧ z.cells.size = 1 ∧ i.size = 1 ∧ i.bytes = 8 := ⟨_, _, rfl, rfl, rfl, rfl, rfl⟩
      refine ⟨_, ?_, run_make w 43 22 i _ Tryz.underlying43 hi hz .i64 .i64 n n (by omega) (by omega) (by rw [hby]; omega) (by omega)⟩
      rw [hsz]
      simp [size_madeCells]
    rw [← hn] at hl ⊢
    have hnI : (n : Int) ≤ 1048576 := by omega
    have hu1 : Upd (fun _ => False) w (w.alloc (.cells cur0 22)) := (Upd.refl _ w).alloc _
    have hN := heap_alloc_new w (.cells cur0 22)
    have HRd := Lib.hid (fun (W : World) (hW : Upd (fun k => k = w.heap.size) (w.alloc (.cells cur0 22)) W) (j : Nat) (hj : j < L.length) => show W.cell? (a.add j) = some (.int .u64 (L[j] : Int)) by
      have h1 := hrd j L[j] (List.getElem?_eq_getElem hj)
      have h2 := World.block_lt_of_cell? w _ h1
      exact hW.cell (hu1.cell h1 fun h => h) (by omega))
    have HN := Lib.hid hN
    have HCs := Lib.hid hcs
    have HU1 := Lib.hid hu1
    have Hn := Lib.hid hn
    clear hrd hN hcs hu1 hn hlc
    go_enter Tryz.func15, Tryz.ntmps15
    go_wp2_with fail
    go_loopg [4] n (fun k v4 wr => ∃ (j : Nat) (cur : Array Value), v4 = .int .i64 (j : Int) ∧ j + k = n ∧ wr.heap[w.heap.size]? = some (.cells cur 22 (0, 0)) ∧ cur.size = n ∧ (∀ i b, i < j → L[i]? = some b → cur[i]? = some (.int .u64 (b : Int))) ∧ Upd (fun k => k = w.heap.size) (w.alloc (.cells cur0 22)) wr)
    case atStart => exact ⟨0, cur0, rfl, by omega, HN.out, HCs.out, fun i b hi => absurd hi (by omega), Upd.refl _ _⟩
    case round =>
      obtain ⟨j, cur, rfl, hjk, hg, hsz, hpre, hu⟩ := hrel
      have HJ := Lib.hid hjk; clear hjk
      have HG := Lib.hid (And.intro hg (And.intro hsz (And.intro hpre hu)))
      by_cases hlt : j < n
      · have hltI : (j : Int) < (n : Int) := by omega
        have hjL : j < L.length := by have := Hn.out; omega
        have c1 := HRd.out wr hu j hjL
        have c2 : wr.cell? ⟨w.heap.size, j, none⟩ = some (cur[j]'(by omega)) := by rw [cell_at hg, Array.getElem?_eq_getElem]
        have f2 : wr.frozen? ⟨w.heap.size, j, none⟩ = false := frozen_at hg j
        clear hg hpre hu
        go_wp2_with fail
        go_roundg (n - (j + 1))
        case measure => have := HJ.out; omega
        case rel =>
          obtain ⟨hg, hsz, hpre, hu⟩ := HG.out
          refine ⟨j + 1, cur.setIfInBounds j (.int .u64 (L[j] : Int)), by go_num, by omega, heap_setCell_at _ hg, by simpa using hsz, fun i b hi hb => ?_, hu.setCell (p := ⟨w.heap.size, j, none⟩) (.inl rfl) _⟩
          by_cases hij : i = j
          · subst hij
            rw [Array.getElem?_setIfInBounds_self, if_pos (by omega)]
            rw [List.getElem?_eq_getElem hjL] at hb
            rw [Option.some.inj hb]
          · rw [Array.getElem?_setIfInBounds_ne (by omega)]
            exact hpre i b (by omega) hb
      · obtain rfl : j = n := by have := HJ.out; omega
        clear hg hsz hpre hu
        go_wp2_with fail
        go_ret
        obtain ⟨hg, hsz, hpre, hu⟩ := HG.out
        refine ⟨.slice (some ⟨w.heap.size, 0, none⟩) j j, rfl, .inr ⟨⟨w.heap.size, 0, none⟩, j, by rw [← Hn.out], by rw [← Hn.out]; exact Nat.le_refl _, fun i b hi => ?_⟩, ?_⟩
        · rw [Addr.add_base, cell_at hg]
          have : i < L.length := (List.getElem?_eq_some_iff.1 hi).1
          exact hpre i b (by have := Hn.out; omega) hi
        · exact HU1.out.trans' hu fun k hk => .inr (by omega)

set_option maxRecDepth 100000 in
set_option maxHeartbeats 2000000 in
theorem cp_strs157 {w : World} {v : Value} {L : List ByteArray} (h : StrsRd w v L) (hl : L.length ≤ 1048576) :
    Calls Tryz.prog 16 #[v] w fun e w' => ∃ v', e = .returned v' ∧ StrsRd w' v' L ∧ Upd (fun _ => False) w w' := by
  rcases h with ⟨rfl, rfl⟩ | ⟨a, c, rfl, hlc, hrd⟩
  · have hsl : ∀ w, (binOp .eql 44 (.slice none 0 0) (.slice none 0 0)).run Tryz.prog w = .ok (.bool true) w := fun w => by kernel_rfl
    clear hl
    go_enter Tryz.func16, Tryz.ntmps16
    go_wp2
    go_ret
    exact ⟨_, rfl, .inl ⟨rfl, rfl⟩, Upd.refl _ w⟩
  · obtain ⟨n, hn⟩ : ∃ n, n = L.length := ⟨_, rfl⟩
    have hsl : ∀ w, (binOp .eql 44 (.slice (some a) n c) (.slice none 0 0)).run Tryz.prog w = .ok (.bool false) w := fun w => by kernel_rfl
    obtain ⟨cur0, hcs, hmk⟩ : ∃ cur : Array Value, cur.size = n ∧ (Instr.makeSlice 44 (.int .i64 (n : Int)) (.int .i64 (n : Int))).run Tryz.prog w = .ok (.slice (some ⟨w.heap.size, 0, none⟩) n n) (w.alloc (.cells cur 9)) := by
      obtain ⟨i, z, hi, hz, hzs, hsz, hby⟩ : ∃ i z, Tryz.prog.info? 9 = some i ∧ i.zero = some z ∧ z.cells.size = 1 ∧ i.size = 1 ∧ i.bytes = 16 := ⟨_, _, rfl, rfl, rfl, rfl, rfl⟩
      refine ⟨_, ?_, run_make w 44 9 i _ Tryz.underlying44 hi hz .i64 .i64 n n (by omega) (by omega) (by rw [hby]; omega) (by omega)⟩
      rw [hsz]
      simp [size_madeCells]
    rw [← hn] at hl ⊢
    have hnI : (n : Int) ≤ 1048576 := by omega
    have hu1 : Upd (fun _ => False) w (w.alloc (.cells cur0 9)) := (Upd.refl _ w).alloc _
    have hN := heap_alloc_new w (.cells cur0 9)
    have HRd := Lib.hid (fun (W : World) (hW : Upd (fun k => k = w.heap.size) (w.alloc (.cells cur0 9)) W) (j : Nat) (hj : j < L.length) => show W.cell? (a.add j) = some (.string L[j]) by
      have h1 := hrd j L[j] (List.getElem?_eq_getElem hj)
      have h2 := World.block_lt_of_cell? w _ h1
      exact hW.cell (hu1.cell h1 fun h => h) (by omega))
    have HN := Lib.hid hN
    have HCs := Lib.hid hcs
    have HU1 := Lib.hid hu1
    have Hn := Lib.hid hn
    clear hrd hN hcs hu1 hn hlc
    go_enter Tryz.func16, Tryz.ntmps16
    go_wp2_with fail
    go_loopg [4] n (fun k v4 wr => ∃ (j : Nat) (cur : Array Value), v4 = .int .i64 (j : Int) ∧ j + k = n ∧ wr.heap[w.heap.size]? = some (.cells cur 9 (0, 0)) ∧ cur.size = n ∧ (∀ i b, i < j → L[i]? = some b → cur[i]? = some (.string b)) ∧ Upd (fun k => k = w.heap.size) (w.alloc (.cells cur0 9)) wr)
    case atStart => exact ⟨0, cur0, rfl, by omega, HN.out, HCs.out, fun i b hi => absurd hi (by omega), Upd.refl _ _⟩
    case round =>
      obtain ⟨j, cur, rfl, hjk, hg, hsz, hpre, hu⟩ := hrel
      have HJ := Lib.hid hjk; clear hjk
      have HG := Lib.hid (And.intro hg (And.intro hsz (And.intro hpre hu)))
      by_cases hlt : j < n
      · have hltI : (j : Int) < (n : Int) := by omega
        have hjL : j < L.length := by have := Hn.out; omega
        have c1 := HRd.out wr hu j hjL
        have c2 : wr.cell? ⟨w.heap.size, j, none⟩ = some (cur[j]'(by omega)) := by rw [cell_at hg, Array.getElem?_eq_getElem]
        have f2 : wr.frozen? ⟨w.heap.size, j, none⟩ = false := frozen_at hg j
        clear hg hpre hu
        go_wp2_with fail
        go_roundg (n - (j + 1))
        case measure => have := HJ.out; omega
        case rel =>
          obtain ⟨hg, hsz, hpre, hu⟩ := HG.out
          refine ⟨j + 1, cur.setIfInBounds j (.string L[j]), by go_num, by omega, heap_setCell_at _ hg, by simpa using hsz, fun i b hi hb => ?_, hu.setCell (p := ⟨w.heap.size, j, none⟩) (.inl rfl) _⟩
          by_cases hij : i = j
          · subst hij
            rw [Array.getElem?_setIfInBounds_self, if_pos (by omega)]
            rw [List.getElem?_eq_getElem hjL] at hb
            rw [Option.some.inj hb]
          · rw [Array.getElem?_setIfInBounds_ne (by omega)]
            exact hpre i b (by omega) hb
      · obtain rfl : j = n := by have := HJ.out; omega
        clear hg hsz hpre hu
        go_wp2_with fail
        go_ret
        obtain ⟨hg, hsz, hpre, hu⟩ := HG.out
        refine ⟨.slice (some ⟨w.heap.size, 0, none⟩) j j, rfl, .inr ⟨⟨w.heap.size, 0, none⟩, j, by rw [← Hn.out], by rw [← Hn.out]; exact Nat.le_refl _, fun i b hi => ?_⟩, ?_⟩
        · rw [Addr.add_base, cell_at hg]
          have : i < L.length := (List.getElem?_eq_some_iff.1 hi).1
          exact hpre i b (by have := Hn.out; omega) hi
        · exact HU1.out.trans' hu fun k hk => .inr (by omega)

end Go.Proofs.YtmdkpihlhdjjaaaGreatFmt

namespace Go.Proofs.YtmdkpihlhdjjaaaGreatFmt
open Go.RowKit

/-- v is the nil slice or the head of a row that holds xs. -/
def RowG (e : TypeId) (w : World) (v : Value) (xs : List Value) : Prop := w.ownsRow 0 e 1 v xs.length xs
theorem RowG.nil (e : TypeId) (w : World) : RowG e w (.slice none 0 0) [] := World.ownsRow_nil _ _ _ _
theorem RowG.form {e : TypeId} {w : World} {v : Value} {xs : List Value} (h : RowG e w v xs) : ∃ ao c, v = .slice ao xs.length c := by
  rcases h.2 with ⟨rfl, h0⟩ | ⟨g, cap, cur, rfl, _⟩
  · exact ⟨none, 0, by rw [h0]⟩
  · exact ⟨_, _, rfl⟩
theorem RowG.lies {e : TypeId} {w : World} {v : Value} {xs : List Value} (h : RowG e w v xs) (hne : xs ≠ []) :
    ∃ g cap cur, v = .slice (some ⟨g, 0, none⟩) xs.length cap ∧ w.heap[g]? = some (.cells cur e (0, 0)) ∧ xs.length ≤ cap ∧ cap ≤ maxLen ∧ ∀ (j : Nat) (u : Value), xs[j]? = some u → cur[j]? = some u := by
  rcases h.2 with ⟨rfl, h0⟩ | ⟨g, cap, cur, rfl, _, h1, h2, h3, h4, h5⟩
  · exact absurd (List.length_eq_zero_iff.1 h0) hne
  · refine ⟨g, cap, cur, rfl, h1, h2, h3, fun j u hj => ?_⟩
    have hlt : j < xs.length := (List.getElem?_eq_some_iff.1 hj).1
    rw [← h5, List.getElem?_take_of_lt (by omega)] at hj
    simpa using hj
theorem RowG.stable {e : TypeId} {w w' : World} {v : Value} {xs : List Value} {F : Nat → Prop} (h : RowG e w v xs) (hu : Upd F w w') (hn : ∀ k, v.ownBlock = some k → ¬ F k) : RowG e w' v xs := by
  obtain ⟨h1, h2⟩ := h
  refine ⟨h1, ?_⟩
  rcases h2 with h | ⟨g, cap, cur, rfl, h4, h5, h6⟩
  · exact .inl h
  · exact .inr ⟨g, cap, cur, rfl, h4, hu.heap h5 (hn g rfl), h6⟩

theorem RowG.lt {e : TypeId} {w : World} {v : Value} {xs : List Value} (h : RowG e w v xs) (k : Nat) (hk : v.ownBlock = some k) : k < w.heap.size := by
  rcases h.2 with ⟨rfl, _⟩ | ⟨g, cap, cur, rfl, _, h1, _⟩
  · simp [Value.ownBlock] at hk
  · simp only [Value.ownBlock, Option.some.injEq] at hk
    subst hk
    exact heap_lt h1

set_option maxRecDepth 100000 in
/-- One value more, out of a box. -/
theorem RowG.push {P : Program} {t e : TypeId} {i : TypeInfo} {z : Value} {by' : Nat} (ht : P.underlying t = some (.slice e)) (hi : P.info? e = some i) (hz : i.zero = some z) (hsz : i.size = 1) (hby : i.bytes = by') (hzs : z.cells.size = 1) (hbb : by' ≤ 16)
    {w : World} {v : Value} {xs : List Value} (h : RowG e w v xs) (x : Value) (h1 : x.oneCell' = true) (hl : xs.length + 1 ≤ 1099511627776) {n : Nat} (hn : n = w.heap.size) :
    ∃ v' w', (Builtin.append_ #[t, t] t #[v, .slice (some ⟨n, 0, none⟩) 1 1]).run P (w.alloc (.cells #[x] e)) = .ok v' w' ∧ RowG e w' v' (xs ++ [x]) ∧ Upd (fun k => v.ownBlock = some k) w w' ∧ (∀ k, v'.ownBlock = some k → v.ownBlock = some k ∨ w.heap.size ≤ k) := by
  subst hn
  have hu : Upd (fun _ => False) w (w.alloc (.cells #[x] e)) := (Upd.refl _ w).alloc _
  have hm : maxLen = 9223372036854775807 := rfl
  obtain ⟨v', w', hr, ho, hg, hown⟩ := append_own (P := P) (w.alloc (.cells #[x] e)) t t e i z 1 by' ht hi hz hsz hby hzs (by decide) (v := v) (n := xs.length) (xs := xs) (h.stable hu fun _ _ h => h) ⟨w.heap.size, 0, none⟩ 1 1 [x] rfl
    (fun j u hj => by
      rcases j with _ | j
      · simp only [List.getElem?_cons_zero, Option.some.injEq] at hj
        subst hj
        exact cell_at (heap_alloc_new w _) 0
      · simp at hj) (fun u hu => by rw [List.mem_singleton] at hu; rw [hu]; exact h1) (by omega) (by
        have := Nat.mul_le_mul hl hbb
        omega)
  refine ⟨v', w', hr, ?_, (hu.mono fun _ h => h.elim).trans ((Upd.refl (fun k => v.ownBlock = some k) _).grown hg fun k hk => .inl hk), fun k hk => ?_⟩
  · unfold RowG
    rw [List.length_append]
    exact ho
  · rcases hown k hk with h | h
    · exact .inl h
    · exact .inr (by have := hu.size; omega)

set_option maxRecDepth 100000 in
/-- Another row's values more. -/
theorem RowG.app {P : Program} {t e : TypeId} {i : TypeInfo} {z : Value} {by' : Nat} (ht : P.underlying t = some (.slice e)) (hi : P.info? e = some i) (hz : i.zero = some z) (hsz : i.size = 1) (hby : i.bytes = by') (hzs : z.cells.size = 1) (hbb : by' ≤ 16)
    {w : World} {v : Value} {xs : List Value} (h : RowG e w v xs) (a : Addr) (c : Nat) (ys : List Value) (hy : ∀ (j : Nat) (u : Value), ys[j]? = some u → w.cell? (a.add j) = some u) (h1 : ∀ u ∈ ys, u.oneCell' = true) (hl : xs.length + ys.length ≤ 1099511627776) :
    ∃ v' w', (Builtin.append_ #[t, t] t #[v, .slice (some a) ys.length c]).run P w = .ok v' w' ∧ RowG e w' v' (xs ++ ys) ∧ Upd (fun k => v.ownBlock = some k) w w' ∧ (∀ k, v'.ownBlock = some k → v.ownBlock = some k ∨ w.heap.size ≤ k) := by
  have hm : maxLen = 9223372036854775807 := rfl
  obtain ⟨v', w', hr, ho, hg, hown⟩ := append_own (P := P) w t t e i z 1 by' ht hi hz hsz hby hzs (by decide) (v := v) (n := xs.length) (xs := xs) h a ys.length c ys (by omega) hy h1 (by omega) (by
        have := Nat.mul_le_mul hl hbb
        omega)
  refine ⟨v', w', hr, ?_, (Upd.refl (fun k => v.ownBlock = some k) _).grown hg fun k hk => .inl hk, hown⟩
  unfold RowG
  rw [List.length_append]
  exact ho

/-- Rows of strings. -/
theorem RowG.strs {w : World} {v : Value} {L : List ByteArray} (h : RowG 9 w v (L.map .string)) : StrsRd w v L := by
  rcases h.2 with ⟨rfl, h0⟩ | ⟨g, cap, cur, rfl, _, h1, h2, h3, h4, h5⟩
  · exact .inl ⟨rfl, by simpa using h0⟩
  · refine .inr ⟨⟨g, 0, none⟩, cap, by rw [List.length_map], by rw [List.length_map] at h2; exact h2, fun j b hj => ?_⟩
    rw [Addr.add_base, cell_at h1]
    have hlt : j < L.length := (List.getElem?_eq_some_iff.1 hj).1
    have h6 : (L.map Value.string)[j]? = some (.string b) := by rw [List.getElem?_map, hj]; rfl
    rw [← h5, List.getElem?_take_of_lt (by rw [List.length_map]; omega)] at h6
    simpa using h6
set_option maxRecDepth 100000 in
theorem strInfo : ∃ i z, Tryz.prog.info? 9 = some i ∧ i.zero = some z ∧ z.cells.size = 1 ∧ i.size = 1 ∧ i.bytes = 16 := ⟨_, _, rfl, rfl, rfl, rfl, rfl⟩
theorem RowG.pushS {w : World} {v : Value} {xs : List Value} (h : RowG 9 w v xs) (s : ByteArray) (hl : xs.length + 1 ≤ 1099511627776) {n : Nat} (hn : n = w.heap.size) :
    ∃ v' w', (Builtin.append_ #[44, 44] 44 #[v, .slice (some ⟨n, 0, none⟩) 1 1]).run Tryz.prog (w.alloc (.cells #[.string s] 9)) = .ok v' w' ∧ RowG 9 w' v' (xs ++ [.string s]) ∧ Upd (fun k => v.ownBlock = some k) w w' ∧ (∀ k, v'.ownBlock = some k → v.ownBlock = some k ∨ w.heap.size ≤ k) := by
  obtain ⟨i, z, hi, hz, hzs, hsz, hby⟩ := strInfo
  exact RowG.push Tryz.underlying44 hi hz hsz hby hzs (by decide) h (.string s) rfl hl hn
theorem RowG.appS {w : World} {v x : Value} {xs : List Value} {L : List ByteArray} (h : RowG 9 w v xs) (hx : StrsRd w x L) (hne : L ≠ []) (hl : xs.length + L.length ≤ 1099511627776) :
    ∃ v' w', (Builtin.append_ #[44, 44] 44 #[v, x]).run Tryz.prog w = .ok v' w' ∧ RowG 9 w' v' (xs ++ L.map .string) ∧ Upd (fun k => v.ownBlock = some k) w w' ∧ (∀ k, v'.ownBlock = some k → v.ownBlock = some k ∨ w.heap.size ≤ k) := by
  obtain ⟨i, z, hi, hz, hzs, hsz, hby⟩ := strInfo
  rcases hx with ⟨_, rfl⟩ | ⟨a, c, rfl, _, hrd⟩
  · exact absurd rfl hne
  · have := RowG.app Tryz.underlying44 hi hz hsz hby hzs (by decide) h a c (L.map .string) (fun j u hj => by
      rw [List.getElem?_map] at hj
      cases hb : L[j]? with
      | none => rw [hb] at hj; cases hj
      | some b =>
        rw [hb] at hj
        simp only [Option.map_some, Option.some.injEq] at hj
        subst hj
        exact hrd j b hb) (fun u hu => by
        obtain ⟨b, _, rfl⟩ := List.mem_map.1 hu
        rfl) (by rw [List.length_map]; exact hl)
    rw [List.length_map] at this
    exact this
end Go.Proofs.YtmdkpihlhdjjaaaGreatFmt

namespace Go.Proofs.YtmdkpihlhdjjaaaGreatFmt
open Go.RowKit

theorem UintsRd.formL {w : World} {v : Value} {L : List Nat} (h : UintsRd w v L) : ∃ ao c, v = .slice ao L.length c ∧ ∀ (j : Nat) (b : Nat), L[j]? = some b → ∃ a, ao = some a ∧ w.cell? (a.add j) = some (.int .u64 (b : Int)) := by
  rcases h with ⟨h1, h2⟩ | ⟨a, c, h1, h2, h3⟩
  · exact ⟨none, 0, by rw [h1, h2]; rfl, fun j b hj => by rw [h2] at hj; simp at hj⟩
  · exact ⟨_, _, h1, fun j b hj => ⟨a, rfl, h3 j b hj⟩⟩
theorem StrsRd.formL {w : World} {v : Value} {L : List ByteArray} (h : StrsRd w v L) : ∃ ao c, v = .slice ao L.length c ∧ ∀ (j : Nat) (b : ByteArray), L[j]? = some b → ∃ a, ao = some a ∧ w.cell? (a.add j) = some (.string b) := by
  rcases h with ⟨h1, h2⟩ | ⟨a, c, h1, h2, h3⟩
  · exact ⟨none, 0, by rw [h1, h2]; rfl, fun j b hj => by rw [h2] at hj; simp at hj⟩
  · exact ⟨_, _, h1, fun j b hj => ⟨a, rfl, h3 j b hj⟩⟩
theorem mem_take_succL {α : Type} {P : α → Prop} {l : List α} {j : Nat} (hj : j < l.length) (h : ∀ t ∈ l.take j, P t) (h2 : P l[j]) : ∀ t ∈ l.take (j + 1), P t := fun t ht => by
  rw [List.take_succ_eq_append_getElem hj, List.mem_append, List.mem_singleton] at ht
  rcases ht with ht | ht
  · exact h t ht
  · rw [ht]; exact h2

set_option maxRecDepth 100000 in
set_option maxHeartbeats 4000000 in
theorem fl_zb {w : World} {lv tv : Value} {L : List Nat} {Tx : List ByteArray} (hL : UintsRd w lv L) (hT : StrsRd w tv Tx) (hm1 : L.length ≤ maxLen) (hm2 : Tx.length ≤ maxLen) (y2 y3 y4 y5 y6 y7 y8 : Value) :
    Calls Tryz.prog 20 #[lv, tv, y2, y3, y4, y5, y6, y7, y8] w fun e w' => ∃ r : Bool, e = .returned (.bool r) ∧ w = w' ∧ (r = true → L.length ≤ 1048576 ∧ Tx.length ≤ 1048576 ∧ ∀ t ∈ Tx, t.size ≤ 1048576) := by
  unfold maxLen at hm1 hm2
  obtain ⟨ao, c, rfl, _⟩ := hL.formL
  obtain ⟨bo, d, rfl, hcell⟩ := hT.formL
  clear hL hT
  obtain ⟨n, hn⟩ : ∃ n, n = L.length := ⟨_, rfl⟩
  obtain ⟨m, hm⟩ : ∃ m, m = Tx.length := ⟨_, rfl⟩
  rw [← hn, ← hm]
  have hnI : (n : Int) ≤ 9223372036854775807 := by omega
  have hmI : (m : Int) ≤ 9223372036854775807 := by omega
  clear hm1 hm2
  by_cases h1 : 1048576 < n
  · have h1I : (1048576 : Int) < (n : Int) := by omega
    clear h1 hn hm hcell
    go_enter Tryz.func20, Tryz.ntmps20
    go_wp2_with fail
    go_ret
    exact ⟨false, rfl, rfl, fun h => by cases h⟩
  have h1I : (n : Int) ≤ 1048576 := by omega
  by_cases h2 : 1048576 < m
  · have h2I : (1048576 : Int) < (m : Int) := by omega
    clear h1 h2 hn hm hcell
    go_enter Tryz.func20, Tryz.ntmps20
    go_wp2_with fail
    go_ret
    exact ⟨false, rfl, rfl, fun h => by cases h⟩
  have h2I : (m : Int) ≤ 1048576 := by omega
  by_cases h3 : 1048576 < n + m
  · have h3I : (1048576 : Int) < (n : Int) + (m : Int) := by omega
    clear h1 h2 h3 hn hm hcell
    go_enter Tryz.func20, Tryz.ntmps20
    go_wp2_with fail
    go_ret
    exact ⟨false, rfl, rfl, fun h => by cases h⟩
  have h3I : (n : Int) + (m : Int) ≤ 1048576 := by omega
  have HC := Lib.hid (And.intro hcell (And.intro hn (And.intro hm (And.intro h1 (And.intro h2 h3)))))
  clear hcell hn hm h1 h2 h3
  go_enter Tryz.func20, Tryz.ntmps20
  go_wp2_with fail
  go_loopg [19, 20] m (fun k v19 v20 wr => ∃ j z : Nat, v19 = .int .i64 (z : Int) ∧ v20 = .int .i64 (j : Int) ∧ j + k = m ∧ w = wr ∧ z ≤ 1048576 ∧ ∀ t ∈ Tx.take j, t.size ≤ 1048576)
  case atStart => exact ⟨0, n + m, by go_num, rfl, by omega, rfl, by have := HC.out; omega, by simp⟩
  case round =>
    obtain ⟨j, z, rfl, rfl, hjk, rfl, hz, hall⟩ := hrel
    have hzI : (z : Int) ≤ 1048576 := by omega
    have HJ := Lib.hid (And.intro hjk (And.intro hz hall))
    clear hjk hz hall
    by_cases hlt : j < m
    · have hltI : (j : Int) < (m : Int) := by omega
      have hj : j < Tx.length := by have := HC.out.2.2.1; omega
      obtain ⟨s, hsj⟩ : ∃ s, Tx[j]'hj = s := ⟨_, rfl⟩
      obtain ⟨a, rfl, c1⟩ := HC.out.1 j s (by rw [List.getElem?_eq_getElem hj, hsj])
      have HS := Lib.hid hsj
      clear hsj
      by_cases hs1 : s.size ≤ 1048576
      · have hs1I : (s.size : Int) ≤ 1048576 := by omega
        by_cases hs2 : z + s.size ≤ 1048576
        · have hs2I : (z : Int) + (s.size : Int) ≤ 1048576 := by omega
          have H2 := Lib.hid (And.intro hs1 hs2)
          clear hs1 hs2
          go_wp2_with fail
          go_roundg (m - (j + 1))
          case measure => have := HJ.out.1; omega
          case rel => exact ⟨j + 1, z + s.size, by go_num, by go_num, by have := HJ.out.1; omega, rfl, H2.out.2, mem_take_succL hj HJ.out.2.2 (by rw [HS.out]; exact H2.out.1)⟩
        · have hs2I : (1048576 : Int) < (z : Int) + (s.size : Int) := by omega
          clear hs1 hs2
          go_wp2_with fail
          go_ret
          exact ⟨false, rfl, rfl, fun h => by cases h⟩
      · have hs1I : (1048576 : Int) < (s.size : Int) := by omega
        clear hs1
        go_wp2_with fail
        go_ret
        exact ⟨false, rfl, rfl, fun h => by cases h⟩
    · obtain rfl : j = m := by have := HJ.out.1; omega
      have HF : RowKit.Hid (n ≤ 1048576 ∧ j ≤ 1048576 ∧ ∀ t ∈ Tx, t.size ≤ 1048576) := Lib.hid ⟨by have := HC.out; omega, by have := HC.out; omega, by
        have h1 := HJ.out.2.2
        rw [HC.out.2.2.1, List.take_length] at h1
        exact h1⟩
      go_wp2_with fail
      go_ret
      exact ⟨true, rfl, rfl, fun _ => HF.out⟩
end Go.Proofs.YtmdkpihlhdjjaaaGreatFmt
