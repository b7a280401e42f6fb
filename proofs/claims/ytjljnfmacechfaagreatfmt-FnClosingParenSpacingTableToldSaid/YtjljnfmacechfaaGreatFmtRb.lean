/-
  A row of bytes that a call makes for itself: what make and append make of it.
-/
import Derived.Test.YtjljnfmacechfaaGreatFmtMa
import Derived.Lib.AppendStr
namespace Go.Proofs.YtjljnfmacechfaaGreatFmt
open Go.RowKit

/-- v is the head of a row of bytes in a block that is no older than B: it holds l. -/
def RowB (B : Nat) (w : World) (v : Value) (l : List UInt8) : Prop := w.ownsRow B 5 1 v l.length (bv l) ∧ B ≤ w.heap.size

section
variable {B : Nat} {w w' : World} {v : Value} {l : List UInt8}

theorem RowB.row (h : RowB B w v l) : Row w v l := Row.mono h.1
theorem RowB.form (h : RowB B w v l) : ∃ ao c, v = .slice ao l.length c := h.row.form
theorem RowB.quiet (h : RowB B w v l) (hu : Upd (fun _ => False) w w') : RowB B w' v l := by
  obtain ⟨⟨h1, h2⟩, h3⟩ := h
  refine ⟨⟨h1, ?_⟩, Nat.le_trans h3 hu.size⟩
  rcases h2 with h | ⟨g, cap, cur, rfl, h4, h5, h6⟩
  · exact .inl h
  · exact .inr ⟨g, cap, cur, rfl, h4, hu.heap h5 (fun h => h), h6⟩
theorem RowB.nil (w : World) : RowB w.heap.size w (.slice none 0 0) [] := ⟨World.ownsRow_nil _ _ _ _, Nat.le_refl _⟩

theorem RowB.strict (hu : Upd (fun k => B ≤ k) w w') (hB : w.heap.size ≤ B) : Upd (fun _ => False) w w' := hu.strict fun _ hk => Nat.le_trans hB hk

theorem RowB.grown {v2 : Value} {n : Nat} {xs : List Value} (h : RowB B w v l) (hg : w.grownBy w' v.ownBlock) (_ : w'.ownsRow B 5 1 v2 n xs) : Upd (fun k => B ≤ k) w w' :=
  (Upd.refl _ w).grown hg fun k hk => .inl (h.1.lt k hk).1

set_option maxRecDepth 100000 in
/-- One byte more. -/
theorem RowB.push (h : RowB B w v l) (c : UInt8) {x : Int} (hx : x = (c.toNat : Int)) (hl : l.length + 1 ≤ LIM) :
    ∃ v' w', (Builtin.append_ #[22, 22] 22 #[v, .slice (some ⟨w.heap.size, 0, none⟩) 1 1]).run Tryz.prog (w.alloc (.cells #[.int .u8 x] 5)) = .ok v' w' ∧ RowB B w' v' (l ++ [c]) ∧ Upd (fun k => B ≤ k) w w' := by
  subst hx
  obtain ⟨i, hi, hz, hsz, hby⟩ : ∃ i, Tryz.prog.info? 5 = some i ∧ i.zero = some (.int .u8 0) ∧ i.size = 1 ∧ i.bytes = 1 := ⟨_, rfl, rfl, rfl, rfl⟩
  have hu : Upd (fun _ => False) w (w.alloc (.cells #[.int .u8 (c.toNat : Int)] 5)) := (Upd.refl _ w).alloc _
  have h1 := h.quiet hu
  have hm : maxLen = 9223372036854775807 := rfl
  have hL : LIM = 1099511627776 := rfl
  obtain ⟨v', w', hr, ho, hg, _⟩ := run_append_own (P := Tryz.prog) (w.alloc (.cells #[.int .u8 (c.toNat : Int)] 5)) B 22 22 5 i (.int .u8 0) 1 1 Tryz.underlying22 hi hz hsz hby rfl (by decide) v l.length (bv l) h1.1 ⟨w.heap.size, 0, none⟩ 1 1 (bv [c]) rfl
    (fun j u hj => by
      rcases j with _ | j
      · simp only [bv, List.map_cons, List.map_nil, List.getElem?_cons_zero, Option.some.injEq] at hj
        subst hj
        exact cell_at (heap_alloc_new w _) 0
      · simp [bv] at hj) (bv_oneCell _) (by omega) (by omega) h1.2
  have ho2 : w'.ownsRow B 5 1 v' (l ++ [c]).length (bv (l ++ [c])) := by
    rw [List.length_append, bv_append]
    exact ho
  exact ⟨v', w', hr, ⟨ho2, Nat.le_trans h1.2 hg.size⟩, (hu.mono fun _ h => h.elim).trans (h1.grown hg ho)⟩

/-- .. the byte's box named as the walk names it. -/
theorem RowB.pushAt (h : RowB B w v l) (c : UInt8) {x : Int} (hx : x = (c.toNat : Int)) (hl : l.length + 1 ≤ LIM) {n : Nat} (hn : n = w.heap.size) :
    ∃ v' w', (Builtin.append_ #[22, 22] 22 #[v, .slice (some ⟨n, 0, none⟩) 1 1]).run Tryz.prog (w.alloc (.cells #[.int .u8 x] 5)) = .ok v' w' ∧ RowB B w' v' (l ++ [c]) ∧ Upd (fun k => B ≤ k) w w' := by
  subst hn
  exact h.push c hx hl

set_option maxRecDepth 100000 in
/-- A text more. -/
theorem RowB.str (h : RowB B w v l) (s : ByteArray) (hl : l.length + s.size ≤ LIM) :
    ∃ v' w', (Builtin.append_ #[22, 9] 22 #[v, .string s]).run Tryz.prog w = .ok v' w' ∧ RowB B w' v' (l ++ s.data.toList) ∧ Upd (fun k => B ≤ k) w w' := by
  obtain ⟨i, hi, hz, hsz, hby⟩ : ∃ i, Tryz.prog.info? 5 = some i ∧ i.zero = some (.int .u8 0) ∧ i.size = 1 ∧ i.bytes = 1 := ⟨_, rfl, rfl, rfl, rfl⟩
  have hm : maxLen = 9223372036854775807 := rfl
  have hL : LIM = 1099511627776 := rfl
  obtain ⟨v', w', hr, ho, hg, _⟩ := Lib.run_append_own_string (P := Tryz.prog) w B 22 9 22 5 i Tryz.underlying22 Tryz.underlying9 hi hz hsz hby v l.length (bv l) h.1 s (by omega) (by omega) h.2
  have ho2 : w'.ownsRow B 5 1 v' (l ++ s.data.toList).length (bv (l ++ s.data.toList)) := by
    rw [List.length_append, bv_append]
    exact ho
  exact ⟨v', w', hr, ⟨ho2, Nat.le_trans h.2 hg.size⟩, h.grown hg ho⟩

set_option maxRecDepth 100000 in
/-- Another row's bytes more. -/
theorem RowB.app (h : RowB B w v l) {x : Value} {d : List UInt8} (hx : Row w x d) (hl : l.length + d.length ≤ LIM) :
    ∃ v' w', (Builtin.append_ #[22, 22] 22 #[v, x]).run Tryz.prog w = .ok v' w' ∧ RowB B w' v' (l ++ d) ∧ Upd (fun k => B ≤ k) w w' := by
  obtain ⟨i, hi, hz, hsz, hby⟩ : ∃ i, Tryz.prog.info? 5 = some i ∧ i.zero = some (.int .u8 0) ∧ i.size = 1 ∧ i.bytes = 1 := ⟨_, rfl, rfl, rfl, rfl⟩
  have hm : maxLen = 9223372036854775807 := rfl
  have hL : LIM = 1099511627776 := rfl
  rcases hx.2 with ⟨rfl, h0⟩ | ⟨g, cap, cur, rfl, h1, h2, h3, h4, h5, h6⟩
  · have hd : d = [] := List.length_eq_zero_iff.1 h0
    subst hd
    rw [List.append_nil]
    exact ⟨v, w, run_append_owned_none (P := Tryz.prog) w B 22 22 5 i 1 Tryz.underlying22 hi v _ _ h.1, h, Upd.refl _ _⟩
  · obtain ⟨v', w', hr, ho, hg, _⟩ := run_append_own (P := Tryz.prog) w B 22 22 5 i (.int .u8 0) 1 1 Tryz.underlying22 hi hz hsz hby rfl (by decide) v l.length (bv l) h.1 ⟨g, 0, none⟩ d.length cap (bv d) (by simp)
      (fun j u hj => hx.cells rfl j u hj) (bv_oneCell _) (by omega) (by omega) h.2
    have ho2 : w'.ownsRow B 5 1 v' (l ++ d).length (bv (l ++ d)) := by
      rw [List.length_append, bv_append]
      exact ho
    exact ⟨v', w', hr, ⟨ho2, Nat.le_trans h.2 hg.size⟩, h.grown hg ho⟩

/-- A row that make has made, still empty. -/
theorem RowB.made {n : Nat} {cur : Array Value} (hc : cur.size = n) (hn : n ≤ maxLen) : RowB w.heap.size (w.alloc (.cells cur 5)) (.slice (some ⟨w.heap.size, 0, none⟩) 0 n) [] :=
  ⟨⟨by simp, .inr ⟨w.heap.size, n, cur, rfl, Nat.le_refl _, heap_alloc_new w _, Nat.zero_le _, hn, by simpa using hc, by simp⟩⟩, by simp⟩

set_option maxRecDepth 100000 in
theorem run_make_bytes (w : World) (n : Nat) (hn : n ≤ 1099511627776) : ∃ cur : Array Value, cur.size = n ∧ (Instr.makeSlice 22 (.int .i64 0) (.int .i64 (n : Int))).run Tryz.prog w = .ok (.slice (some ⟨w.heap.size, 0, none⟩) 0 n) (w.alloc (.cells cur 5)) := by
  obtain ⟨i, hi, hz, hsz, hby⟩ : ∃ i, Tryz.prog.info? 5 = some i ∧ i.zero = some (.int .u8 0) ∧ i.size = 1 ∧ i.bytes = 1 := ⟨_, rfl, rfl, rfl, rfl⟩
  have h := run_make (P := Tryz.prog) w 22 5 i _ Tryz.underlying22 hi hz .i64 .i64 0 (n : Int) (by omega) (by omega) (by rw [hby]; omega) (by omega)
  refine ⟨_, ?_, h⟩
  rw [hsz]
  simp [madeCells, Value.cells]

/-- An empty row is made: its head and its world with names of their own, so that no walk looks into them. -/
theorem row_make (w : World) (n : Nat) (hn : n ≤ 1099511627776) {x : Int} (hx : x = (n : Int)) : ∃ v0 w0, (Instr.makeSlice 22 (.int .i64 0) (.int .i64 x)).run Tryz.prog w = .ok v0 w0 ∧ RowB w.heap.size w0 v0 [] ∧ Upd (fun _ => False) w w0 := by
  subst hx
  obtain ⟨cur, hcs, hmk⟩ := run_make_bytes w n hn
  exact ⟨_, _, hmk, RowB.made hcs (by unfold maxLen; omega), (Upd.refl _ w).alloc _⟩
end
end Go.Proofs.YtjljnfmacechfaaGreatFmt
