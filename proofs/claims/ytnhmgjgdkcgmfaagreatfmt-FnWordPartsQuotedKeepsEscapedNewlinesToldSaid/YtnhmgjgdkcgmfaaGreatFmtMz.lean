/-
  n010_150: copies of slices, plain texts, sums of lengths, backslashes at the end.
  n010_150: the bounds' functions.
-/
import Derived.Test.YtnhmgjgdkcgmfaaGreatFmtMa
import Derived.Test.YtnhmgjgdkcgmfaaGreatFmtTwO
import Derived.Test.YtnhmgjgdkcgmfaaGreatFmtPwB
import Derived.Deep.LoopGhost
namespace Go.Proofs.YtnhmgjgdkcgmfaaGreatFmt
open Go.RowKit

set_option maxRecDepth 100000 in
set_option maxHeartbeats 2000000 in
theorem cp_strs150 {w : World} {v : Value} {L : List ByteArray} (h : StrsRd w v L) (hl : L.length ≤ 1048576) :
    Calls Tryz.prog 10 #[v] w fun e w' => ∃ v', e = .returned v' ∧ StrsRd w' v' L ∧ Upd (fun _ => False) w w' := by
  rcases h with ⟨rfl, rfl⟩ | ⟨a, c, rfl, hlc, hrd⟩
  · have hsl : ∀ w, (binOp .eql 22 (.slice none 0 0) (.slice none 0 0)).run Tryz.prog w = .ok (.bool true) w := fun w => by kernel_rfl
    clear hl
    go_enter Tryz.func10, Tryz.ntmps10
    go_wp2
    go_ret
    exact ⟨_, rfl, .inl ⟨rfl, rfl⟩, Upd.refl _ w⟩
  · obtain ⟨n, hn⟩ : ∃ n, n = L.length := ⟨_, rfl⟩
    have hsl : ∀ w, (binOp .eql 22 (.slice (some a) n c) (.slice none 0 0)).run Tryz.prog w = .ok (.bool false) w := fun w => by kernel_rfl
    obtain ⟨cur0, hcs, hmk⟩ : ∃ cur : Array Value, cur.size = n ∧ (Instr.makeSlice 22 (.int .i64 (n : Int)) (.int .i64 (n : Int))).run Tryz.prog w = .ok (.slice (some ⟨w.heap.size, 0, none⟩) n n) (w.alloc (.cells cur 9)) := by
      obtain ⟨i, z, hi, hz, hzs, hsz, hby⟩ : ∃ i z, Tryz.prog.info? 9 = some i ∧ i.zero = some z ∧ z.cells.size = 1 ∧ i.size = 1 ∧ i.bytes = 16 := ⟨_, _, rfl, rfl, rfl, rfl, rfl⟩
      refine ⟨_, ?_, run_make w 22 9 i _ Tryz.underlying22 hi hz .i64 .i64 n n (by omega) (by omega) (by rw [hby]; omega) (by omega)⟩
      rw [hsz]
      simp [size_madeCells]
    rw [← hn] at hl ⊢
    have hnI : (n : Int) ≤ 1048576 := by omega
    have hu1 : Upd (fun _ => False) w (w.alloc (.cells cur0 9)) := (Upd.refl _ w).alloc _
    have hN := heap_alloc_new w (.cells cur0 9)
    have HRd := Lib.hid (fun (W : World) (hW : Upd (fun k => k = w.heap.size) (w.alloc (.cells cur0 9)) W) (j : Nat) (hj : j < L.length) => show W.cell? (a.add j) = some (.string L[j]) by
      have h1 := hrd j L[j] (List.getElem?_eq_getElem hj)
      have h2 := World.block_lt_of_cell? w _ h1
      exact hW.cell (hu1.cell h1 fun h => h) (by omega))
    have HN := Lib.hid hN
    have HCs := Lib.hid hcs
    have HU1 := Lib.hid hu1
    have Hn := Lib.hid hn
    clear hrd hN hcs hu1 hn hlc
    go_enter Tryz.func10, Tryz.ntmps10
    go_wp2_with fail
    go_loopg [4] n (fun k v4 wr => ∃ (j : Nat) (cur : Array Value), v4 = .int .i64 (j : Int) ∧ j + k = n ∧ wr.heap[w.heap.size]? = some (.cells cur 9 (0, 0)) ∧ cur.size = n ∧ (∀ i b, i < j → L[i]? = some b → cur[i]? = some (.string b)) ∧ Upd (fun k => k = w.heap.size) (w.alloc (.cells cur0 9)) wr)
    case atStart => exact ⟨0, cur0, rfl, by omega, HN.out, HCs.out, fun i b hi => absurd hi (by omega), Upd.refl _ _⟩
    case round =>
      obtain ⟨j, cur, rfl, hjk, hg, hsz, hpre, hu⟩ := hrel
      have HJ := Lib.hid hjk; clear hjk
      have HG := Lib.hid (And.intro hg (And.intro hsz (And.intro hpre hu)))
      by_cases hlt : j < n
      · have hltI : (j : Int) < (n : Int) := by omega
        have hjL : j < L.length := by have := Hn.out; omega
        have c1 := HRd.out wr hu j hjL
        have c2 : wr.cell? ⟨w.heap.size, j, none⟩ = some (cur[j]'(by omega)) := by rw [cell_at hg, Array.getElem?_eq_getElem]
        have f2 : wr.frozen? ⟨w.heap.size, j, none⟩ = false := frozen_at hg j
        clear hg hpre hu
        go_wp2_with fail
        go_roundg (n - (j + 1))
        case measure => have := HJ.out; omega
        case rel =>
          obtain ⟨hg, hsz, hpre, hu⟩ := HG.out
          refine ⟨j + 1, cur.setIfInBounds j (.string L[j]), by go_num, by omega, heap_setCell_at _ hg, by simpa using hsz, fun i b hi hb => ?_, hu.setCell (p := ⟨w.heap.size, j, none⟩) (.inl rfl) _⟩
          by_cases hij : i = j
          · subst hij
            rw [Array.getElem?_setIfInBounds_self, if_pos (by omega)]
            rw [List.getElem?_eq_getElem hjL] at hb
            rw [Option.some.inj hb]
          · rw [Array.getElem?_setIfInBounds_ne (by omega)]
            exact hpre i b (by omega) hb
      · obtain rfl : j = n := by have := HJ.out; omega
        clear hg hsz hpre hu
        go_wp2_with fail
        go_ret
        obtain ⟨hg, hsz, hpre, hu⟩ := HG.out
        refine ⟨.slice (some ⟨w.heap.size, 0, none⟩) j j, rfl, .inr ⟨⟨w.heap.size, 0, none⟩, j, by rw [← Hn.out], by rw [← Hn.out]; exact Nat.le_refl _, fun i b hi => ?_⟩, ?_⟩
        · rw [Addr.add_base, cell_at hg]
          have : i < L.length := (List.getElem?_eq_some_iff.1 hi).1
          exact hpre i b (by have := Hn.out; omega) hi
        · exact HU1.out.trans' hu fun k hk => .inr (by omega)

set_option maxRecDepth 100000 in
set_option maxHeartbeats 2000000 in
theorem cp_uints150 {w : World} {v : Value} {L : List Nat} (h : UintsRd w v L) (hl : L.length ≤ 1048576) :
    Calls Tryz.prog 11 #[v] w fun e w' => ∃ v', e = .returned v' ∧ UintsRd w' v' L ∧ Upd (fun _ => False) w w' := by
  rcases h with ⟨rfl, rfl⟩ | ⟨a, c, rfl, hlc, hrd⟩
  · have hsl : ∀ w, (binOp .eql 23 (.slice none 0 0) (.slice none 0 0)).run Tryz.prog w = .ok (.bool true) w := fun w => by kernel_rfl
    clear hl
    go_enter Tryz.func11, Tryz.ntmps11
    go_wp2
    go_ret
    exact ⟨_, rfl, .inl ⟨rfl, rfl⟩, Upd.refl _ w⟩
  · obtain ⟨n, hn⟩ : ∃ n, n = L.length := ⟨_, rfl⟩
    have hsl : ∀ w, (binOp .eql 23 (.slice (some a) n c) (.slice none 0 0)).run Tryz.prog w = .ok (.bool false) w := fun w => by kernel_rfl
    obtain ⟨cur0, hcs, hmk⟩ : ∃ cur : Array Value, cur.size = n ∧ (Instr.makeSlice 23 (.int .i64 (n : Int)) (.int .i64 (n : Int))).run Tryz.prog w = .ok (.slice (some ⟨w.heap.size, 0, none⟩) n n) (w.alloc (.cells cur 24)) := by
      obtain ⟨i, z, hi, hz, hzs, hsz, hby⟩ : ∃ i z, Tryz.prog.info? 24 = some i ∧ i.zero = some z ∧ z.cells.size = 1 ∧ i.size = 1 ∧ i.bytes = 8 := ⟨_, _, rfl, rfl, rfl, rfl, rfl⟩
      refine ⟨_, ?_, run_make w 23 24 i _ Tryz.underlying23 hi hz .i64 .i64 n n (by omega) (by omega) (by rw [hby]; omega) (by omega)⟩
      rw [hsz]
      simp [size_madeCells]
    rw [← hn] at hl ⊢
    have hnI : (n : Int) ≤ 1048576 := by omega
    have hu1 : Upd (fun _ => False) w (w.alloc (.cells cur0 24)) := (Upd.refl _ w).alloc _
    have hN := heap_alloc_new w (.cells cur0 24)
    have HRd := Lib.hid (fun (W : World) (hW : Upd (fun k => k = w.heap.size) (w.alloc (.cells cur0 24)) W) (j : Nat) (hj : j < L.length) => show W.cell? (a.add j) = some (.int .u64 (L[j] : Int)) by
      have h1 := hrd j L[j] (List.getElem?_eq_getElem hj)
      have h2 := World.block_lt_of_cell? w _ h1
      exact hW.cell (hu1.cell h1 fun h => h) (by omega))
    have HN := Lib.hid hN
    have HCs := Lib.hid hcs
    have HU1 := Lib.hid hu1
    have Hn := Lib.hid hn
    clear hrd hN hcs hu1 hn hlc
    go_enter Tryz.func11, Tryz.ntmps11
    go_wp2_with fail
    go_loopg [4] n (fun k v4 wr => ∃ (j : Nat) (cur : Array Value), v4 = .int .i64 (j : Int) ∧ j + k = n ∧ wr.heap[w.heap.size]? = some (.cells cur 24 (0, 0)) ∧ cur.size = n ∧ (∀ i b, i < j → L[i]? = some b → cur[i]? = some (.int .u64 (b : Int))) ∧ Upd (fun k => k = w.heap.size) (w.alloc (.cells cur0 24)) wr)
    case atStart => exact ⟨0, cur0, rfl, by omega, HN.out, HCs.out, fun i b hi => absurd hi (by omega), Upd.refl _ _⟩
    case round =>
      obtain ⟨j, cur, rfl, hjk, hg, hsz, hpre, hu⟩ := hrel
      have HJ := Lib.hid hjk; clear hjk
      have HG := Lib.hid (And.intro hg (And.intro hsz (And.intro hpre hu)))
      by_cases hlt : j < n
      · have hltI : (j : Int) < (n : Int) := by omega
        have hjL : j < L.length := by have := Hn.out; omega
        have c1 := HRd.out wr hu j hjL
        have c2 : wr.cell? ⟨w.heap.size, j, none⟩ = some (cur[j]'(by omega)) := by rw [cell_at hg, Array.getElem?_eq_getElem]
        have f2 : wr.frozen? ⟨w.heap.size, j, none⟩ = false := frozen_at hg j
        clear hg hpre hu
        go_wp2_with fail
        go_roundg (n - (j + 1))
        case measure => have := HJ.out; omega
        case rel =>
          obtain ⟨hg, hsz, hpre, hu⟩ := HG.out
          refine ⟨j + 1, cur.setIfInBounds j (.int .u64 (L[j] : Int)), by go_num, by omega, heap_setCell_at _ hg, by simpa using hsz, fun i b hi hb => ?_, hu.setCell (p := ⟨w.heap.size, j, none⟩) (.inl rfl) _⟩
          by_cases hij : i = j
          · subst hij
            rw [Array.getElem?_setIfInBounds_self, if_pos (by omega)]
            rw [List.getElem?_eq_getElem hjL] at hb
            rw [Option.some.inj hb]
          · rw [Array.getElem?_setIfInBounds_ne (by omega)]
            exact hpre i b (by omega) hb
      · obtain rfl : j = n := by have := HJ.out; omega
        clear hg hsz hpre hu
        go_wp2_with fail
        go_ret
        obtain ⟨hg, hsz, hpre, hu⟩ := HG.out
        refine ⟨.slice (some ⟨w.heap.size, 0, none⟩) j j, rfl, .inr ⟨⟨w.heap.size, 0, none⟩, j, by rw [← Hn.out], by rw [← Hn.out]; exact Nat.le_refl _, fun i b hi => ?_⟩, ?_⟩
        · rw [Addr.add_base, cell_at hg]
          have : i < L.length := (List.getElem?_eq_some_iff.1 hi).1
          exact hpre i b (by have := Hn.out; omega) hi
        · exact HU1.out.trans' hu fun k hk => .inr (by omega)

/-! Which bytes are plain. -/
def plB (nl : Bool) (c : UInt8) : Bool := !(c == 9 || c == 11 || c == 12 || c == 255) && (nl || !(c == 10))
theorem plB_cases (nl : Bool) (c : UInt8) : ((c.toNat : Int) = 9 ∧ plB nl c = false) ∨ ((c.toNat : Int) = 11 ∧ plB nl c = false) ∨ ((c.toNat : Int) = 12 ∧ plB nl c = false) ∨ ((c.toNat : Int) = 255 ∧ plB nl c = false) ∨ ((c.toNat : Int) = 10 ∧ plB nl c = nl) ∨
    (((c.toNat : Int) == 9) = false ∧ ((c.toNat : Int) == 11) = false ∧ ((c.toNat : Int) == 12) = false ∧ ((c.toNat : Int) == 255) = false ∧ ((c.toNat : Int) == 10) = false ∧ plB nl c = true) := by
  by_cases h1 : c = 9
  · subst h1; exact .inl ⟨rfl, by cases nl <;> rfl⟩
  by_cases h2 : c = 11
  · subst h2; exact .inr (.inl ⟨rfl, by cases nl <;> rfl⟩)
  by_cases h3 : c = 12
  · subst h3; exact .inr (.inr (.inl ⟨rfl, by cases nl <;> rfl⟩))
  by_cases h4 : c = 255
  · subst h4; exact .inr (.inr (.inr (.inl ⟨rfl, by cases nl <;> rfl⟩)))
  by_cases h5 : c = 10
  · subst h5; exact .inr (.inr (.inr (.inr (.inl ⟨rfl, by cases nl <;> rfl⟩))))
  have hne : ∀ d : UInt8, c ≠ d → ((c.toNat : Int) == (d.toNat : Int)) = false := fun d hd => by
    rw [beq_eq_false_iff_ne]
    intro e
    exact hd (UInt8.toNat_inj.1 (by omega))
  exact .inr (.inr (.inr (.inr (.inr ⟨hne 9 h1, hne 11 h2, hne 12 h3, hne 255 h4, hne 10 h5, by simp [plB, h1, h2, h3, h4, h5]⟩))))
theorem plB_tw {nl : Bool} {c : UInt8} (h : plB nl c = true) : twOk c = true ∧ c ≠ 9 := by
  simp only [plB, Bool.and_eq_true, Bool.not_eq_true', Bool.or_eq_false_iff, beq_eq_false_iff_ne] at h
  obtain ⟨⟨⟨⟨h1, h2⟩, h3⟩, h4⟩, _⟩ := h
  exact ⟨by simp [twOk, h1, h2, h3, h4], h1⟩

set_option maxRecDepth 100000 in
set_option maxHeartbeats 4000000 in
theorem zz_plain (s : ByteArray) (nl : Bool) (hs : s.size ≤ 1099511627776) (w : World) : Calls Tryz.prog 16 #[.string s, .bool nl] w fun e w' => e = .returned (.bool (s.data.toList.all (plB nl))) ∧ w = w' := by
  have hsz : (s.size : Int) ≤ 1099511627776 := by omega
  clear hs
  obtain ⟨r, hr⟩ : ∃ r, s.data.toList.all (plB nl) = r := ⟨_, rfl⟩
  rw [hr]
  have HR := Lib.hid hr
  clear hr
  cases nl
  · go_enter Tryz.func16, Tryz.ntmps16
    go_wp2_with fail
    go_loopg [5] (s.size) (fun k v5 wr => ∃ i : Nat, v5 = .int .i64 (i : Int) ∧ i + k = s.size ∧ w = wr ∧ ∀ x ∈ s.data.toList.take i, plB false x = true)
    case atStart => exact ⟨0, rfl, by omega, rfl, by simp⟩
    case round =>
      obtain ⟨i, rfl, hik, rfl, hall⟩ := hrel
      have HK := Lib.hid (And.intro hik hall)
      clear hik hall
      by_cases hlt : i < s.size
      · have hltI : (i : Int) < (s.size : Int) := by omega
        obtain ⟨c, hc⟩ : ∃ c, s[i]'hlt = c := ⟨_, rfl⟩
        have hcl : s.data.toList[i]'hlt = c := hc
        have hbad : plB false c = false → r = false := fun h => by
          rw [← HR.out, List.all_eq_false]
          exact ⟨c, hcl ▸ List.getElem_mem _, by simp [h]⟩
        have hgood : plB false c = true → ∀ x ∈ s.data.toList.take (i + 1), plB false x = true := fun h x hx => by
          rw [List.take_succ_eq_append_getElem hlt, List.mem_append, List.mem_singleton] at hx
          rcases hx with hx | hx
          · exact HK.out.2 x hx
          · rw [hx, hcl]; exact h
        have HB := Lib.hid (And.intro hbad hgood)
        have hcase := plB_cases false c
        clear hbad hgood hcl
        rcases hcase with ⟨h1, h2⟩ | ⟨h1, h2⟩ | ⟨h1, h2⟩ | ⟨h1, h2⟩ | ⟨h1, h2⟩ | ⟨h1, h3, h4, h5, h6, h2⟩
        all_goals
          have H2 := Lib.hid h2
          clear h2
          go_wp2_with fail
        all_goals
          first
            | (go_roundg (s.size - (i + 1))
               case measure => have := HK.out.1; omega
               case rel => exact ⟨i + 1, by go_num, by have := HK.out.1; omega, rfl, HB.out.2 H2.out⟩)
            | (go_ret
               rw [HB.out.1 H2.out]
               exact ⟨rfl, rfl⟩)
      · obtain rfl : i = s.size := by have := HK.out.1; omega
        go_wp2_with fail
        go_ret
        have hr : r = true := by
          rw [← HR.out, List.all_eq_true]
          intro x hx
          refine HK.out.2 x ?_
          rw [show s.size = s.data.toList.length from rfl, List.take_length]
          exact hx
        rw [hr]
        exact ⟨rfl, rfl⟩
  · go_enter Tryz.func16, Tryz.ntmps16
    go_wp2_with fail
    go_loopg [5] (s.size) (fun k v5 wr => ∃ i : Nat, v5 = .int .i64 (i : Int) ∧ i + k = s.size ∧ w = wr ∧ ∀ x ∈ s.data.toList.take i, plB true x = true)
    case atStart => exact ⟨0, rfl, by omega, rfl, by simp⟩
    case round =>
      obtain ⟨i, rfl, hik, rfl, hall⟩ := hrel
      have HK := Lib.hid (And.intro hik hall)
      clear hik hall
      by_cases hlt : i < s.size
      · have hltI : (i : Int) < (s.size : Int) := by omega
        obtain ⟨c, hc⟩ : ∃ c, s[i]'hlt = c := ⟨_, rfl⟩
        have hcl : s.data.toList[i]'hlt = c := hc
        have hbad : plB true c = false → r = false := fun h => by
          rw [← HR.out, List.all_eq_false]
          exact ⟨c, hcl ▸ List.getElem_mem _, by simp [h]⟩
        have hgood : plB true c = true → ∀ x ∈ s.data.toList.take (i + 1), plB true x = true := fun h x hx => by
          rw [List.take_succ_eq_append_getElem hlt, List.mem_append, List.mem_singleton] at hx
          rcases hx with hx | hx
          · exact HK.out.2 x hx
          · rw [hx, hcl]; exact h
        have HB := Lib.hid (And.intro hbad hgood)
        have hcase := plB_cases true c
        clear hbad hgood hcl
        rcases hcase with ⟨h1, h2⟩ | ⟨h1, h2⟩ | ⟨h1, h2⟩ | ⟨h1, h2⟩ | ⟨h1, h2⟩ | ⟨h1, h3, h4, h5, h6, h2⟩
        all_goals
          have H2 := Lib.hid h2
          clear h2
          go_wp2_with fail
        all_goals
          first
            | (go_roundg (s.size - (i + 1))
               case measure => have := HK.out.1; omega
               case rel => exact ⟨i + 1, by go_num, by have := HK.out.1; omega, rfl, HB.out.2 H2.out⟩)
            | (go_ret
               rw [HB.out.1 H2.out]
               exact ⟨rfl, rfl⟩)
      · obtain rfl : i = s.size := by have := HK.out.1; omega
        go_wp2_with fail
        go_ret
        have hr : r = true := by
          rw [← HR.out, List.all_eq_true]
          intro x hx
          refine HK.out.2 x ?_
          rw [show s.size = s.data.toList.length from rfl, List.take_length]
          exact hx
        rw [hr]
        exact ⟨rfl, rfl⟩

set_option maxRecDepth 100000 in
set_option maxHeartbeats 4000000 in
theorem zz_allPlain {w : World} {v : Value} {L : List ByteArray} (h : StrsRd w v L) (nl : Bool) (hl : L.length ≤ 1048576) (hs : ∀ s ∈ L, s.size ≤ 1099511627776) :
    Calls Tryz.prog 9 #[v, .bool nl] w fun e w' => e = .returned (.bool (L.all fun s => s.data.toList.all (plB nl))) ∧ w = w' := by
  rcases h with ⟨rfl, rfl⟩ | ⟨a, c, rfl, hlc, hrd⟩
  · clear hl hs
    go_enter Tryz.func9, Tryz.ntmps9
    go_wp2_with fail
    go_loopg [5] 0 (fun _ v5 wr => v5 = .int .i64 0 ∧ w = wr)
    case atStart => exact ⟨rfl, rfl⟩
    case round =>
      obtain ⟨rfl, rfl⟩ := hrel
      go_wp2_with fail
      go_ret
      exact ⟨rfl, rfl⟩
  · obtain ⟨n, hn⟩ : ∃ n, n = L.length := ⟨_, rfl⟩
    obtain ⟨r, hr⟩ : ∃ r, (L.all fun s => s.data.toList.all (plB nl)) = r := ⟨_, rfl⟩
    rw [← hn, hr]
    have hnI : (n : Int) ≤ 1048576 := by omega
    have HR := Lib.hid hr
    have HC := Lib.hid (And.intro hrd (And.intro hs hn))
    clear hr hrd hs hn hl hlc
    go_enter Tryz.func9, Tryz.ntmps9
    go_wp2_with fail
    go_loopg [5] n (fun k v5 wr => ∃ j : Nat, v5 = .int .i64 (j : Int) ∧ j + k = n ∧ w = wr ∧ ∀ s ∈ L.take j, s.data.toList.all (plB nl) = true)
    case atStart => exact ⟨0, rfl, by omega, rfl, by simp⟩
    case round =>
      obtain ⟨j, rfl, hjk, rfl, hpre⟩ := hrel
      have HJ := Lib.hid (And.intro hjk hpre)
      clear hjk hpre
      by_cases hlt : j < n
      · have hltI : (j : Int) < (n : Int) := by omega
        have hj : j < L.length := by have := HC.out.2.2; omega
        obtain ⟨s, hsj⟩ : ∃ s, L[j]'hj = s := ⟨_, rfl⟩
        have c1 : w.cell? (a.add j) = some (.string s) := HC.out.1 j s (by rw [List.getElem?_eq_getElem hj, hsj])
        have hsm : s ∈ L := hsj ▸ List.getElem_mem hj
        have HS := Lib.hid (And.intro hsj hsm)
        have hp := zz_plain s nl (HC.out.2.1 s hsm) w
        clear hsj hsm
        cases hpl : s.data.toList.all (plB nl)
        · rw [hpl] at hp
          have HP := Lib.hid hp
          have HPl := Lib.hid hpl
          clear hp hpl
          go_wp2_with (go_at_call 16; refine HP.out.mono ?_; rintro e w1 ⟨rfl, rfl⟩)
          go_ret
          have : r = false := by
            rw [← HR.out, List.all_eq_false]
            exact ⟨s, HS.out.2, by rw [HPl.out]; simp⟩
          rw [this]
          exact ⟨rfl, rfl⟩
        · rw [hpl] at hp
          have HP := Lib.hid hp
          have HPl := Lib.hid hpl
          clear hp hpl
          go_wp2_with (go_at_call 16; refine HP.out.mono ?_; rintro e w1 ⟨rfl, rfl⟩)
          go_roundg (n - (j + 1))
          case measure => have := HJ.out.1; omega
          case rel =>
            refine ⟨j + 1, by go_num, by have := HJ.out.1; omega, rfl, fun x hx => ?_⟩
            rw [List.take_succ_eq_append_getElem hj, List.mem_append, List.mem_singleton] at hx
            rcases hx with hx | hx
            · exact HJ.out.2 x hx
            · rw [hx, HS.out.1]; exact HPl.out
      · obtain rfl : j = n := by have := HJ.out.1; omega
        go_wp2_with fail
        go_ret
        have hr : r = true := by
          rw [← HR.out, List.all_eq_true]
          intro x hx
          refine HJ.out.2 x ?_
          rw [HC.out.2.2, List.take_length]
          exact hx
        rw [hr]
        exact ⟨rfl, rfl⟩

/-- Sixteen a string, and its length. -/
def strBytes (L : List ByteArray) : Nat := 16 * L.length + (L.map ByteArray.size).sum
theorem sum_take_le (L : List ByteArray) (j : Nat) : ((L.take j).map ByteArray.size).sum ≤ (L.map ByteArray.size).sum := by
  calc ((L.take j).map ByteArray.size).sum ≤ ((L.take j).map ByteArray.size).sum + ((L.drop j).map ByteArray.size).sum := Nat.le_add_right _ _
    _ = (((L.take j) ++ (L.drop j)).map ByteArray.size).sum := by simp only [List.map_append, List.sum_append]
    _ = (L.map ByteArray.size).sum := by rw [List.take_append_drop]
theorem sum_take_succ (L : List ByteArray) (j : Nat) (hj : j < L.length) : ((L.take (j + 1)).map ByteArray.size).sum = ((L.take j).map ByteArray.size).sum + L[j].size := by
  rw [List.take_succ_eq_append_getElem hj, List.map_append, List.sum_append]
  simp

set_option maxRecDepth 100000 in
set_option maxHeartbeats 4000000 in
theorem zz_strBytes {w : World} {v : Value} {L : List ByteArray} (h : StrsRd w v L) (hl : L.length ≤ 1048576) (hs : (L.map ByteArray.size).sum ≤ 1099511627776) :
    Calls Tryz.prog 7 #[v] w fun e w' => e = .returned (.int .i64 (strBytes L : Int)) ∧ w = w' := by
  rcases h with ⟨rfl, rfl⟩ | ⟨a, c, rfl, hlc, hrd⟩
  · clear hl hs
    go_enter Tryz.func7, Tryz.ntmps7
    go_wp2_with fail
    go_loopg [3, 4] 0 (fun _ v3 v4 wr => v3 = .int .i64 0 ∧ v4 = .int .i64 0 ∧ w = wr)
    case atStart => exact ⟨rfl, rfl, rfl⟩
    case round =>
      obtain ⟨rfl, rfl, rfl⟩ := hrel
      go_wp2_with fail
      go_ret
      exact ⟨rfl, rfl⟩
  · obtain ⟨n, hn⟩ : ∃ n, n = L.length := ⟨_, rfl⟩
    obtain ⟨r, hr⟩ : ∃ r, strBytes L = r := ⟨_, rfl⟩
    rw [← hn, hr]
    have hnI : (n : Int) ≤ 1048576 := by omega
    have HR := Lib.hid hr
    have HC := Lib.hid (And.intro hrd (And.intro hs hn))
    clear hr hrd hs hn hl hlc
    go_enter Tryz.func7, Tryz.ntmps7
    go_wp2_with fail
    go_loopg [3, 4] n (fun k v3 v4 wr => ∃ j m : Nat, v3 = .int .i64 (m : Int) ∧ v4 = .int .i64 (j : Int) ∧ j + k = n ∧ w = wr ∧ m = 16 * n + ((L.take j).map ByteArray.size).sum)
    case atStart => exact ⟨0, 16 * n, by go_num, rfl, by omega, rfl, by simp⟩
    case round =>
      obtain ⟨j, m, rfl, rfl, hjk, rfl, hm⟩ := hrel
      have hmb : m ≤ 1116691496960 + 1 := by
        have h1 := sum_take_le L j
        have h2 := HC.out.2.1
        omega
      have hmI : (m : Int) ≤ 1116691496961 := by omega
      have HJ := Lib.hid (And.intro hjk hm)
      clear hjk hm hmb
      by_cases hlt : j < n
      · have hltI : (j : Int) < (n : Int) := by omega
        have hj : j < L.length := by have := HC.out.2.2; omega
        obtain ⟨s, hsj⟩ : ∃ s, L[j]'hj = s := ⟨_, rfl⟩
        have c1 : w.cell? (a.add j) = some (.string s) := HC.out.1 j s (by rw [List.getElem?_eq_getElem hj, hsj])
        have hsb : (s.size : Int) ≤ 1099511627776 := by
          have h1 := sum_take_succ L j hj
          have h2 := sum_take_le L (j + 1)
          have h3 := HC.out.2.1
          rw [hsj] at h1
          omega
        have HS := Lib.hid hsj
        clear hsj
        go_wp2_with fail
        go_roundg (n - (j + 1))
        case measure => have := HJ.out.1; omega
        case rel =>
          refine ⟨j + 1, m + s.size, by go_num, by go_num, by have := HJ.out.1; omega, rfl, ?_⟩
          rw [sum_take_succ L j hj, HS.out]
          have := HJ.out.2
          omega
      · obtain rfl : j = n := by have := HJ.out.1; omega
        go_wp2_with fail
        go_ret
        have hr : m = r := by
          have h1 := HJ.out.2
          rw [HC.out.2.2, List.take_length] at h1
          rw [h1, ← HR.out]
          rfl
        rw [hr]
        exact ⟨rfl, rfl⟩

set_option maxRecDepth 100000 in
set_option maxHeartbeats 4000000 in
theorem zz_linesAtMost {w : World} {v : Value} {L : List Nat} (h : UintsRd w v L) (m : Nat) (hl : L.length ≤ 1048576) :
    Calls Tryz.prog 8 #[v, .int .u64 (m : Int)] w fun e w' => e = .returned (.bool (L.all fun x => decide (x ≤ m))) ∧ w = w' := by
  rcases h with ⟨rfl, rfl⟩ | ⟨a, c, rfl, hlc, hrd⟩
  · clear hl
    go_enter Tryz.func8, Tryz.ntmps8
    go_wp2_with fail
    go_loopg [5] 0 (fun _ v5 wr => v5 = .int .i64 0 ∧ w = wr)
    case atStart => exact ⟨rfl, rfl⟩
    case round =>
      obtain ⟨rfl, rfl⟩ := hrel
      go_wp2_with fail
      go_ret
      exact ⟨rfl, rfl⟩
  · obtain ⟨n, hn⟩ : ∃ n, n = L.length := ⟨_, rfl⟩
    obtain ⟨r, hr⟩ : ∃ r, (L.all fun x => decide (x ≤ m)) = r := ⟨_, rfl⟩
    rw [← hn, hr]
    have hnI : (n : Int) ≤ 1048576 := by omega
    have HR := Lib.hid hr
    have HC := Lib.hid (And.intro hrd hn)
    clear hr hrd hn hl hlc
    go_enter Tryz.func8, Tryz.ntmps8
    go_wp2_with fail
    go_loopg [5] n (fun k v5 wr => ∃ j : Nat, v5 = .int .i64 (j : Int) ∧ j + k = n ∧ w = wr ∧ ∀ x ∈ L.take j, x ≤ m)
    case atStart => exact ⟨0, rfl, by omega, rfl, by simp⟩
    case round =>
      obtain ⟨j, rfl, hjk, rfl, hpre⟩ := hrel
      have HJ := Lib.hid (And.intro hjk hpre)
      clear hjk hpre
      by_cases hlt : j < n
      · have hltI : (j : Int) < (n : Int) := by omega
        have hj : j < L.length := by have := HC.out.2; omega
        obtain ⟨x, hxj⟩ : ∃ x, L[j]'hj = x := ⟨_, rfl⟩
        have c1 : w.cell? (a.add j) = some (.int .u64 (x : Int)) := HC.out.1 j x (by rw [List.getElem?_eq_getElem hj, hxj])
        have HS := Lib.hid hxj
        clear hxj
        by_cases hx : x ≤ m
        · have hxI : ¬ (m : Int) < (x : Int) := by omega
          have HX := Lib.hid hx
          clear hx
          go_wp2_with fail
          go_roundg (n - (j + 1))
          case measure => have := HJ.out.1; omega
          case rel =>
            refine ⟨j + 1, by go_num, by have := HJ.out.1; omega, rfl, fun y hy => ?_⟩
            rw [List.take_succ_eq_append_getElem hj, List.mem_append, List.mem_singleton] at hy
            rcases hy with hy | hy
            · exact HJ.out.2 y hy
            · rw [hy, HS.out]; exact HX.out
        · have hxI : (m : Int) < (x : Int) := by omega
          have HX := Lib.hid hx
          clear hx
          go_wp2_with fail
          go_ret
          have : r = false := by
            rw [← HR.out, List.all_eq_false]
            exact ⟨x, HS.out ▸ List.getElem_mem hj, by simpa using HX.out⟩
          rw [this]
          exact ⟨rfl, rfl⟩
      · obtain rfl : j = n := by have := HJ.out.1; omega
        go_wp2_with fail
        go_ret
        have hr : r = true := by
          rw [← HR.out, List.all_eq_true]
          intro x hx
          refine decide_eq_true (HJ.out.2 x ?_)
          rw [HC.out.2, List.take_length]
          exact hx
        rw [hr]
        exact ⟨rfl, rfl⟩

end Go.Proofs.YtnhmgjgdkcgmfaaGreatFmt

namespace Go.Proofs.YtnhmgjgdkcgmfaaGreatFmt
open Go.RowKit




set_option maxRecDepth 100000 in
set_option maxHeartbeats 4000000 in
theorem zb_FnWordPartsQuotedKeepsEscapedNewlines {w : World} {vv : Value} {vals : List ByteArray} (hv : StrsRd w vv vals) {lv : Value} {lines : List Nat} (hL : UintsRd w lv lines) (hm : vals.length ≤ maxLen) (hm2 : lines.length ≤ maxLen) (y2 : Value) (y3 : Value) :
    Calls Tryz.prog 6 #[vv, lv, y2, y3] w fun e w' => ∃ r : Bool, e = .returned (.bool r) ∧ w = w' ∧ (r = true → vals.length ≤ 1048576 ∧ (vals.map ByteArray.size).sum ≤ 1048576 ∧ lines.length ≤ 1048576) := by
  unfold maxLen at hm hm2
  obtain ⟨la, lc, rfl⟩ : ∃ la lc, lv = .slice la lines.length lc := by
    rcases hL with ⟨rfl, rfl⟩ | ⟨a, c, rfl, _⟩
    · exact ⟨_, _, rfl⟩
    · exact ⟨_, _, rfl⟩
  clear hL
  have hl2I : (lines.length : Int) ≤ 9223372036854775807 := by omega
  obtain ⟨nl, hnl⟩ : ∃ nl, nl = lines.length := ⟨_, rfl⟩
  have hl1I : (vals.length : Int) ≤ 9223372036854775807 := by omega
  by_cases hbig : vals.length ≤ 1048576
  · have hbI : (vals.length : Int) ≤ 1048576 := by omega
    obtain ⟨n, hn⟩ : ∃ n, n = vals.length := ⟨_, rfl⟩
    rcases hv with ⟨rfl, rfl⟩ | ⟨a, c, rfl, hlc, hrd⟩
    · have HF : RowKit.Hid (([] : List ByteArray).length ≤ 1048576 ∧ (([] : List ByteArray).map ByteArray.size).sum ≤ 1048576) := Lib.hid (by simp)
      clear hm hl1I hbI hbig hn
      go_enter Tryz.func6, Tryz.ntmps6
      go_wp2_with fail
      go_loopg [9, 10] 0 (fun _ v5 v6 wr => v5 = .int .i64 ((0 : Nat) : Int) ∧ v6 = .int .i64 0 ∧ w = wr)
      case atStart => exact ⟨rfl, rfl, rfl⟩
      case round =>
      obtain ⟨rfl, rfl, rfl⟩ := hrel
      by_cases hlb : lines.length ≤ 1048576
      · have hlbI : (lines.length : Int) ≤ 1048576 := by omega
        have HLL := Lib.hid hlb
        clear hlb
        go_wp2_with fail
        go_ret
        exact ⟨true, rfl, rfl, fun _ => ⟨HF.out.1, HF.out.2, HLL.out⟩⟩
      · have hlbI : (1048576 : Int) < (lines.length : Int) := by omega
        clear hlb
        go_wp2_with fail
        go_ret
        exact ⟨false, rfl, rfl, fun h => by cases h⟩
    · rw [← hn] at hbI ⊢
      have HC := Lib.hid (And.intro hrd (And.intro hn hbig))
      clear hrd hn hlc hm hl1I hbig
      go_enter Tryz.func6, Tryz.ntmps6
      go_wp2_with fail
      go_loopg [9, 10] n (fun k v5 v6 wr => ∃ j m : Nat, v5 = .int .i64 (m : Int) ∧ v6 = .int .i64 (j : Int) ∧ j + k = n ∧ w = wr ∧ m = n + ((vals.take j).map ByteArray.size).sum ∧ m ≤ 1048576)
      case atStart => exact ⟨0, n, rfl, rfl, by omega, rfl, by simp, by omega⟩
      case round =>
      obtain ⟨j, m, rfl, rfl, hjk, rfl, hms, hmb⟩ := hrel
      have hmI : (m : Int) ≤ 1048576 := by omega
      have HJ := Lib.hid (And.intro hjk hms)
      clear hjk hms hmb
      by_cases hlt : j < n
      · have hltI : (j : Int) < (n : Int) := by omega
        have hj : j < vals.length := by have := HC.out.2.1; omega
        obtain ⟨s, hsj⟩ : ∃ s, vals[j]'hj = s := ⟨_, rfl⟩
        have c1 : w.cell? (a.add j) = some (.string s) := HC.out.1 j s (by rw [List.getElem?_eq_getElem hj, hsj])
        have HS := Lib.hid hsj
        clear hsj
        by_cases hs1 : s.size ≤ 1048576
        · have hs1I : (s.size : Int) ≤ 1048576 := by omega
          by_cases hs2 : m + s.size ≤ 1048576
          · have hs2I : (m : Int) + (s.size : Int) ≤ 1048576 := by omega
            have H2 := Lib.hid hs2
            clear hs1 hs2
            go_wp2_with fail
            go_roundg (n - (j + 1))
            case measure => have := HJ.out.1; omega
            case rel =>
              refine ⟨j + 1, m + s.size, by go_num, by go_num, by have := HJ.out.1; omega, rfl, ?_, H2.out⟩
              rw [sum_take_succ vals j hj, HS.out]
              have := HJ.out.2
              omega
          · have hs2I : (1048576 : Int) < (m : Int) + (s.size : Int) := by omega
            clear hs1 hs2
            go_wp2_with fail
            go_ret
            exact ⟨false, rfl, rfl, fun h => by cases h⟩
        · have hs1I : (1048576 : Int) < (s.size : Int) := by omega
          clear hs1
          go_wp2_with fail
          go_ret
          exact ⟨false, rfl, rfl, fun h => by cases h⟩
      · obtain rfl : j = n := by have := HJ.out.1; omega
        have HF : RowKit.Hid (vals.length ≤ 1048576 ∧ (vals.map ByteArray.size).sum ≤ 1048576) := Lib.hid ⟨HC.out.2.2, by
          have h1 := HJ.out.2
          rw [HC.out.2.1, List.take_length] at h1
          omega⟩

        by_cases hlb : lines.length ≤ 1048576
        · have hlbI : (lines.length : Int) ≤ 1048576 := by omega
          have HLL := Lib.hid hlb
          clear hlb
          by_cases hmb : m + lines.length ≤ 1048576
          · have hmbI : (m : Int) + (lines.length : Int) ≤ 1048576 := by omega
            clear hmb
            go_wp2_with fail
            go_ret
            exact ⟨true, rfl, rfl, fun _ => ⟨(by have h1 := HF.out.1; have h2 := HC.out.2.1; omega), HF.out.2, HLL.out⟩⟩
          · have hmbI : (1048576 : Int) < (m : Int) + (lines.length : Int) := by omega
            clear hmb
            go_wp2_with fail
            go_ret
            exact ⟨false, rfl, rfl, fun h => by cases h⟩
        · have hlbI : (1048576 : Int) < (lines.length : Int) := by omega
          clear hlb
          go_wp2_with fail
          go_ret
          exact ⟨false, rfl, rfl, fun h => by cases h⟩
  · have hbI : (1048576 : Int) < (vals.length : Int) := by omega
    obtain ⟨va, vc, rfl⟩ : ∃ va vc, vv = .slice va vals.length vc := by
      rcases hv with ⟨rfl, rfl⟩ | ⟨a, c, rfl, _⟩
      · exact ⟨_, _, rfl⟩
      · exact ⟨_, _, rfl⟩
    clear hv hbig hm
    go_enter Tryz.func6, Tryz.ntmps6
    go_wp2_with fail
    go_ret
    exact ⟨false, rfl, rfl, fun h => by cases h⟩

set_option maxRecDepth 100000 in
set_option maxHeartbeats 4000000 in
theorem zb_FnDblQuotedExact {w : World} {vv : Value} {vals : List ByteArray} (hv : StrsRd w vv vals) (hm : vals.length ≤ maxLen) (y1 : Value) (y2 : Value) (y3 : Value) :
    Calls Tryz.prog 15 #[vv, y1, y2, y3] w fun e w' => ∃ r : Bool, e = .returned (.bool r) ∧ w = w' ∧ (r = true → vals.length ≤ 1048576 ∧ (vals.map ByteArray.size).sum ≤ 1048576) := by
  unfold maxLen at hm
  have hl1I : (vals.length : Int) ≤ 9223372036854775807 := by omega
  by_cases hbig : vals.length ≤ 1048576
  · have hbI : (vals.length : Int) ≤ 1048576 := by omega
    obtain ⟨n, hn⟩ : ∃ n, n = vals.length := ⟨_, rfl⟩
    rcases hv with ⟨rfl, rfl⟩ | ⟨a, c, rfl, hlc, hrd⟩
    · have HF : RowKit.Hid (([] : List ByteArray).length ≤ 1048576 ∧ (([] : List ByteArray).map ByteArray.size).sum ≤ 1048576) := Lib.hid (by simp)
      clear hm hl1I hbI hbig hn
      go_enter Tryz.func15, Tryz.ntmps15
      go_wp2_with fail
      go_loopg [9, 10] 0 (fun _ v5 v6 wr => v5 = .int .i64 ((0 : Nat) : Int) ∧ v6 = .int .i64 0 ∧ w = wr)
      case atStart => exact ⟨rfl, rfl, rfl⟩
      case round =>
      obtain ⟨rfl, rfl, rfl⟩ := hrel
      go_wp2_with fail
      go_ret
      exact ⟨true, rfl, rfl, fun _ => ⟨HF.out.1, HF.out.2⟩⟩
    · rw [← hn] at hbI ⊢
      have HC := Lib.hid (And.intro hrd (And.intro hn hbig))
      clear hrd hn hlc hm hl1I hbig
      go_enter Tryz.func15, Tryz.ntmps15
      go_wp2_with fail
      go_loopg [9, 10] n (fun k v5 v6 wr => ∃ j m : Nat, v5 = .int .i64 (m : Int) ∧ v6 = .int .i64 (j : Int) ∧ j + k = n ∧ w = wr ∧ m = n + ((vals.take j).map ByteArray.size).sum ∧ m ≤ 1048576)
      case atStart => exact ⟨0, n, rfl, rfl, by omega, rfl, by simp, by omega⟩
      case round =>
      obtain ⟨j, m, rfl, rfl, hjk, rfl, hms, hmb⟩ := hrel
      have hmI : (m : Int) ≤ 1048576 := by omega
      have HJ := Lib.hid (And.intro hjk hms)
      clear hjk hms hmb
      by_cases hlt : j < n
      · have hltI : (j : Int) < (n : Int) := by omega
        have hj : j < vals.length := by have := HC.out.2.1; omega
        obtain ⟨s, hsj⟩ : ∃ s, vals[j]'hj = s := ⟨_, rfl⟩
        have c1 : w.cell? (a.add j) = some (.string s) := HC.out.1 j s (by rw [List.getElem?_eq_getElem hj, hsj])
        have HS := Lib.hid hsj
        clear hsj
        by_cases hs1 : s.size ≤ 1048576
        · have hs1I : (s.size : Int) ≤ 1048576 := by omega
          by_cases hs2 : m + s.size ≤ 1048576
          · have hs2I : (m : Int) + (s.size : Int) ≤ 1048576 := by omega
            have H2 := Lib.hid hs2
            clear hs1 hs2
            go_wp2_with fail
            go_roundg (n - (j + 1))
            case measure => have := HJ.out.1; omega
            case rel =>
              refine ⟨j + 1, m + s.size, by go_num, by go_num, by have := HJ.out.1; omega, rfl, ?_, H2.out⟩
              rw [sum_take_succ vals j hj, HS.out]
              have := HJ.out.2
              omega
          · have hs2I : (1048576 : Int) < (m : Int) + (s.size : Int) := by omega
            clear hs1 hs2
            go_wp2_with fail
            go_ret
            exact ⟨false, rfl, rfl, fun h => by cases h⟩
        · have hs1I : (1048576 : Int) < (s.size : Int) := by omega
          clear hs1
          go_wp2_with fail
          go_ret
          exact ⟨false, rfl, rfl, fun h => by cases h⟩
      · obtain rfl : j = n := by have := HJ.out.1; omega
        have HF : RowKit.Hid (vals.length ≤ 1048576 ∧ (vals.map ByteArray.size).sum ≤ 1048576) := Lib.hid ⟨HC.out.2.2, by
          have h1 := HJ.out.2
          rw [HC.out.2.1, List.take_length] at h1
          omega⟩

        go_wp2_with fail
        go_ret
        exact ⟨true, rfl, rfl, fun _ => ⟨by have h1 := HF.out.1; have h2 := HC.out.2.1; omega, HF.out.2⟩⟩
  · have hbI : (1048576 : Int) < (vals.length : Int) := by omega
    obtain ⟨va, vc, rfl⟩ : ∃ va vc, vv = .slice va vals.length vc := by
      rcases hv with ⟨rfl, rfl⟩ | ⟨a, c, rfl, _⟩
      · exact ⟨_, _, rfl⟩
      · exact ⟨_, _, rfl⟩
    clear hv hbig hm
    go_enter Tryz.func15, Tryz.ntmps15
    go_wp2_with fail
    go_ret
    exact ⟨false, rfl, rfl, fun h => by cases h⟩

set_option maxRecDepth 100000 in
set_option maxHeartbeats 4000000 in
theorem zb_FnDblQuotedDollarPrefixAndMinifyNeutral {w : World} {vv : Value} {vals : List ByteArray} (hv : StrsRd w vv vals) {lv : Value} {lines : List Nat} (hL : UintsRd w lv lines) (hm : vals.length ≤ maxLen) (hm2 : lines.length ≤ maxLen) (y2 : Value) (y3 : Value) :
    Calls Tryz.prog 14 #[vv, lv, y2, y3] w fun e w' => ∃ r : Bool, e = .returned (.bool r) ∧ w = w' ∧ (r = true → vals.length ≤ 1048576 ∧ (vals.map ByteArray.size).sum ≤ 1048576 ∧ lines.length ≤ 1048576) := by
  unfold maxLen at hm hm2
  obtain ⟨la, lc, rfl⟩ : ∃ la lc, lv = .slice la lines.length lc := by
    rcases hL with ⟨rfl, rfl⟩ | ⟨a, c, rfl, _⟩
    · exact ⟨_, _, rfl⟩
    · exact ⟨_, _, rfl⟩
  clear hL
  have hl2I : (lines.length : Int) ≤ 9223372036854775807 := by omega
  obtain ⟨nl, hnl⟩ : ∃ nl, nl = lines.length := ⟨_, rfl⟩
  have hl1I : (vals.length : Int) ≤ 9223372036854775807 := by omega
  by_cases hbig : vals.length ≤ 1048576
  · have hbI : (vals.length : Int) ≤ 1048576 := by omega
    obtain ⟨n, hn⟩ : ∃ n, n = vals.length := ⟨_, rfl⟩
    rcases hv with ⟨rfl, rfl⟩ | ⟨a, c, rfl, hlc, hrd⟩
    · have HF : RowKit.Hid (([] : List ByteArray).length ≤ 1048576 ∧ (([] : List ByteArray).map ByteArray.size).sum ≤ 1048576) := Lib.hid (by simp)
      clear hm hl1I hbI hbig hn
      go_enter Tryz.func14, Tryz.ntmps14
      go_wp2_with fail
      go_loopg [9, 10] 0 (fun _ v5 v6 wr => v5 = .int .i64 ((0 : Nat) : Int) ∧ v6 = .int .i64 0 ∧ w = wr)
      case atStart => exact ⟨rfl, rfl, rfl⟩
      case round =>
      obtain ⟨rfl, rfl, rfl⟩ := hrel
      by_cases hlb : lines.length ≤ 1048576
      · have hlbI : (lines.length : Int) ≤ 1048576 := by omega
        have HLL := Lib.hid hlb
        clear hlb
        go_wp2_with fail
        go_ret
        exact ⟨true, rfl, rfl, fun _ => ⟨HF.out.1, HF.out.2, HLL.out⟩⟩
      · have hlbI : (1048576 : Int) < (lines.length : Int) := by omega
        clear hlb
        go_wp2_with fail
        go_ret
        exact ⟨false, rfl, rfl, fun h => by cases h⟩
    · rw [← hn] at hbI ⊢
      have HC := Lib.hid (And.intro hrd (And.intro hn hbig))
      clear hrd hn hlc hm hl1I hbig
      go_enter Tryz.func14, Tryz.ntmps14
      go_wp2_with fail
      go_loopg [9, 10] n (fun k v5 v6 wr => ∃ j m : Nat, v5 = .int .i64 (m : Int) ∧ v6 = .int .i64 (j : Int) ∧ j + k = n ∧ w = wr ∧ m = n + ((vals.take j).map ByteArray.size).sum ∧ m ≤ 1048576)
      case atStart => exact ⟨0, n, rfl, rfl, by omega, rfl, by simp, by omega⟩
      case round =>
      obtain ⟨j, m, rfl, rfl, hjk, rfl, hms, hmb⟩ := hrel
      have hmI : (m : Int) ≤ 1048576 := by omega
      have HJ := Lib.hid (And.intro hjk hms)
      clear hjk hms hmb
      by_cases hlt : j < n
      · have hltI : (j : Int) < (n : Int) := by omega
        have hj : j < vals.length := by have := HC.out.2.1; omega
        obtain ⟨s, hsj⟩ : ∃ s, vals[j]'hj = s := ⟨_, rfl⟩
        have c1 : w.cell? (a.add j) = some (.string s) := HC.out.1 j s (by rw [List.getElem?_eq_getElem hj, hsj])
        have HS := Lib.hid hsj
        clear hsj
        by_cases hs1 : s.size ≤ 1048576
        · have hs1I : (s.size : Int) ≤ 1048576 := by omega
          by_cases hs2 : m + s.size ≤ 1048576
          · have hs2I : (m : Int) + (s.size : Int) ≤ 1048576 := by omega
            have H2 := Lib.hid hs2
            clear hs1 hs2
            go_wp2_with fail
            go_roundg (n - (j + 1))
            case measure => have := HJ.out.1; omega
            case rel =>
              refine ⟨j + 1, m + s.size, by go_num, by go_num, by have := HJ.out.1; omega, rfl, ?_, H2.out⟩
              rw [sum_take_succ vals j hj, HS.out]
              have := HJ.out.2
              omega
          · have hs2I : (1048576 : Int) < (m : Int) + (s.size : Int) := by omega
            clear hs1 hs2
            go_wp2_with fail
            go_ret
            exact ⟨false, rfl, rfl, fun h => by cases h⟩
        · have hs1I : (1048576 : Int) < (s.size : Int) := by omega
          clear hs1
          go_wp2_with fail
          go_ret
          exact ⟨false, rfl, rfl, fun h => by cases h⟩
      · obtain rfl : j = n := by have := HJ.out.1; omega
        have HF : RowKit.Hid (vals.length ≤ 1048576 ∧ (vals.map ByteArray.size).sum ≤ 1048576) := Lib.hid ⟨HC.out.2.2, by
          have h1 := HJ.out.2
          rw [HC.out.2.1, List.take_length] at h1
          omega⟩

        by_cases hlb : lines.length ≤ 1048576
        · have hlbI : (lines.length : Int) ≤ 1048576 := by omega
          have HLL := Lib.hid hlb
          clear hlb
          by_cases hmb : m + lines.length ≤ 1048576
          · have hmbI : (m : Int) + (lines.length : Int) ≤ 1048576 := by omega
            clear hmb
            go_wp2_with fail
            go_ret
            exact ⟨true, rfl, rfl, fun _ => ⟨(by have h1 := HF.out.1; have h2 := HC.out.2.1; omega), HF.out.2, HLL.out⟩⟩
          · have hmbI : (1048576 : Int) < (m : Int) + (lines.length : Int) := by omega
            clear hmb
            go_wp2_with fail
            go_ret
            exact ⟨false, rfl, rfl, fun h => by cases h⟩
        · have hlbI : (1048576 : Int) < (lines.length : Int) := by omega
          clear hlb
          go_wp2_with fail
          go_ret
          exact ⟨false, rfl, rfl, fun h => by cases h⟩
  · have hbI : (1048576 : Int) < (vals.length : Int) := by omega
    obtain ⟨va, vc, rfl⟩ : ∃ va vc, vv = .slice va vals.length vc := by
      rcases hv with ⟨rfl, rfl⟩ | ⟨a, c, rfl, _⟩
      · exact ⟨_, _, rfl⟩
      · exact ⟨_, _, rfl⟩
    clear hv hbig hm
    go_enter Tryz.func14, Tryz.ntmps14
    go_wp2_with fail
    go_ret
    exact ⟨false, rfl, rfl, fun h => by cases h⟩
end Go.Proofs.YtnhmgjgdkcgmfaaGreatFmt
