/-
  The frame notions that all contracts of this claim use: a world that is another but for some blocks; rows of bytes; the abstract sink of a writer. Plain Lean over the model's worlds: no function of the program is named here.
-/
import Derived.WalkKit
import Derived.WalkSpells
import Derived.WalkLawsBesides
import Derived.Deep.Draws
namespace Go.Proofs.YtdfgcopelfmcmaaGreatFmt
open Go.RowKit

/-- w' is w but for the blocks in F and for new blocks. -/
structure Upd (F : Nat → Prop) (w w' : World) : Prop where
  os : w'.os = w.os
  tape : w'.tape = w.tape
  output : w'.output = w.output
  size : w.heap.size ≤ w'.heap.size
  block : ∀ k, k < w.heap.size → ¬ F k → w'.heap[k]? = w.heap[k]?

section
variable {F G H : Nat → Prop} {a w w' w1 : World}
theorem Upd.refl (F : Nat → Prop) (w : World) : Upd F w w := ⟨rfl, rfl, rfl, Nat.le_refl _, fun _ _ _ => rfl⟩
theorem Upd.mono (h : Upd F w w') (hFG : ∀ k, F k → G k) : Upd G w w' := ⟨h.os, h.tape, h.output, h.size, fun k hk hn => h.block k hk fun hf => hn (hFG k hf)⟩
theorem Upd.trans' (h : Upd F a w) (k : Upd G w w') (hG : ∀ i, G i → F i ∨ a.heap.size ≤ i) : Upd F a w' :=
  ⟨k.os.trans h.os, k.tape.trans h.tape, k.output.trans h.output, Nat.le_trans h.size k.size, fun i hi hn =>
    (k.block i (Nat.lt_of_lt_of_le hi h.size) fun hg => by rcases hG i hg with h1 | h1; exact hn h1; omega).trans (h.block i hi hn)⟩
theorem Upd.trans (h : Upd F a w) (k : Upd F w w') : Upd F a w' := h.trans' k fun _ hi => .inl hi
theorem Upd.drew (h : Upd F a w) : Upd F a w.drew := ⟨h.os, h.tape, h.output, h.size, h.block⟩
theorem Upd.drewN (h : Upd F a w) (k : Nat) : Upd F a (w.drewN k) := ⟨h.os, h.tape, h.output, h.size, h.block⟩
theorem Upd.alloc (h : Upd F a w) (o : Obj) : Upd F a (w.alloc o) :=
  ⟨h.os, h.tape, h.output, by have := h.size; simp; omega, fun k hk hn => (Below.heap_alloc w o k (Nat.lt_of_lt_of_le hk h.size)).trans (h.block k hk hn)⟩
theorem Upd.setCell (h : Upd F a w) {p : Addr} (hp : F p.block ∨ a.heap.size ≤ p.block) (u : Value) : Upd F a (w.setCell p u) :=
  ⟨h.os, h.tape, h.output, by have := h.size; simpa using this, fun k hk hn =>
    (Below.heap_setCell w p u k (fun e => by subst e; rcases hp with h1 | h1; exact hn h1; omega)).trans (h.block k hk hn)⟩
theorem Upd.setRow (h : Upd F a w) {g : Nat} (hp : F g ∨ a.heap.size ≤ g) (cs : Array Value) : Upd F a (w.setRow g cs) :=
  ⟨h.os, h.tape, h.output, by have := h.size; simpa using this, fun k hk hn =>
    (setRow_other w g k cs (fun e => by subst e; rcases hp with h1 | h1; exact hn h1; omega)).trans (h.block k hk hn)⟩
theorem Upd.grown (h : Upd F a w) {row : Option Nat} (hg : w.grownBy w' row) (hp : ∀ k, row = some k → F k ∨ a.heap.size ≤ k) : Upd F a w' :=
  h.trans' (G := fun k => row = some k) ⟨hg.os, hg.tape, hg.output, hg.size, fun k hk hn => hg.block k hk fun e => hn e.symm⟩ hp
theorem Upd.heap (h : Upd F w w') {k : Nat} {o : Obj} (hk : w.heap[k]? = some o) (hn : ¬ F k) : w'.heap[k]? = some o :=
  (h.block k (Array.getElem?_eq_some_iff.1 hk).1 hn).trans hk
theorem Upd.cell (h : Upd F w w') {p : Addr} {v : Value} (hp : w.cell? p = some v) (hn : ¬ F p.block) : w'.cell? p = some v :=
  (World.cell?_of_block (h.block p.block (World.block_lt_of_cell? w p hp) hn)).trans hp
theorem Upd.frozen (h : Upd F w w') {p : Addr} (hp : p.block < w.heap.size) (hn : ¬ F p.block) : w'.frozen? p = w.frozen? p :=
  World.frozen?_of_block (h.block p.block hp hn)
theorem Upd.below {B : Nat} (h : Upd F w w') (hF : ∀ k, F k → B ≤ k) (hB : B ≤ w.heap.size) : Below B w w' :=
  ⟨h.os, h.tape, h.output, h.size, fun k hk => h.block k (by omega) fun hf => by have := hF k hf; omega⟩
/-- Blocks that are new are none of w's. -/
theorem Upd.strict (h : Upd F w w') (hF : ∀ k, F k → w.heap.size ≤ k) : Upd G w w' := ⟨h.os, h.tape, h.output, h.size, fun k hk _ => h.block k hk fun hf => by have := hF k hf; omega⟩
theorem Upd.of_below (h : Below w.heap.size w w') (F : Nat → Prop) : Upd F w w' := ⟨h.os, h.tape, h.output, h.size, fun k hk _ => h.block k hk⟩
end

theorem heap_lt {w : World} {k : Nat} {o : Obj} (h : w.heap[k]? = some o) : k < w.heap.size := (Array.getElem?_eq_some_iff.1 h).1
theorem heap_setCell_at {w : World} {g i : Nat} {cs : Array Value} {t : TypeId} {f : Nat × Nat} (v : Value) (hg : w.heap[g]? = some (.cells cs t f)) :
    (w.setCell ⟨g, i, none⟩ v).heap[g]? = some (.cells (cs.setIfInBounds i v) t f) := by
  simp only [World.setCell, Array.getElem?_modify, if_true, hg, Option.map_some]
  simp
theorem frozen_at {w : World} {g : Nat} {cs : Array Value} {t : TypeId} (hg : w.heap[g]? = some (.cells cs t (0, 0))) (j : Nat) : w.frozen? ⟨g, j, none⟩ = false := frozen_of_row w g j cs t hg
theorem cell_at {w : World} {g : Nat} {cs : Array Value} {t : TypeId} {f : Nat × Nat} (hg : w.heap[g]? = some (.cells cs t f)) (j : Nat) : w.cell? ⟨g, j, none⟩ = cs[j]? := cell_of_row w g j cs t f hg

/-! Bytes as cells -/
def B8 (c : UInt8) : Value := .int .u8 (c.toNat : Int)
def bv (l : List UInt8) : List Value := l.map B8
@[simp] theorem bv_length (l : List UInt8) : (bv l).length = l.length := by simp [bv]
@[simp] theorem bv_nil : bv [] = [] := rfl
theorem bv_append (l m : List UInt8) : bv (l ++ m) = bv l ++ bv m := by simp [bv]
theorem bv_take (l : List UInt8) (n : Nat) : bv (l.take n) = (bv l).take n := by simp [bv]
theorem bv_drop (l : List UInt8) (n : Nat) : bv (l.drop n) = (bv l).drop n := by simp [bv]
theorem bv_getElem? (l : List UInt8) (n : Nat) : (bv l)[n]? = (l[n]?).map B8 := by simp [bv]
theorem bv_oneCell (l : List UInt8) : ∀ u ∈ bv l, u.oneCell' = true := by
  intro u hu
  simp only [bv, List.mem_map] at hu
  obtain ⟨c, _, rfl⟩ := hu
  rfl

end Go.Proofs.YtdfgcopelfmcmaaGreatFmt
