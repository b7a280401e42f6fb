/-
  The frame notions that all contracts of this claim use: a world that is another but for some blocks; rows of bytes; the abstract sink of a writer. Plain Lean over the model's worlds: no function of the program is named here.
  The abstract sink of a writer, and a bufio.Writer over a sink. No function of the program is named here but by its number.
  The builtin copy into a row of bytes, from a readable slice and from a string. Plain laws over the model's worlds.
  append onto a row that is owned, cells of whatever size: with the block of the result said.
  A builtin whose run is known, at the operation of a walk.
  Type assertions at a pointer type, with ok: what each makes.
  Readable slices of strings and of numbers.
  A row of bytes that a writer owns, and what append makes of it, with the block of the result said.
  The string of a row of bytes.
-/
import Derived.WalkKit
import Derived.WalkSpells
import Derived.WalkLawsBesides
import Derived.Deep.Draws
import Derived.Laws.OwnMore
import Derived.Lib.Hide
import Derived.Test.YtjljnfmacechfaaGreatFmtProg
import Derived.Laws.IdiomStrings
namespace Go.Proofs.YtjljnfmacechfaaGreatFmt
open Go.RowKit

/-- w' is w but for the blocks in F and for new blocks. -/
structure Upd (F : Nat → Prop) (w w' : World) : Prop where
  os : w'.os = w.os
  tape : w'.tape = w.tape
  output : w'.output = w.output
  size : w.heap.size ≤ w'.heap.size
  block : ∀ k, k < w.heap.size → ¬ F k → w'.heap[k]? = w.heap[k]?

section
variable {F G H : Nat → Prop} {a w w' w1 : World}
theorem Upd.refl (F : Nat → Prop) (w : World) : Upd F w w := ⟨rfl, rfl, rfl, Nat.le_refl _, fun _ _ _ => rfl⟩
theorem Upd.mono (h : Upd F w w') (hFG : ∀ k, F k → G k) : Upd G w w' := ⟨h.os, h.tape, h.output, h.size, fun k hk hn => h.block k hk fun hf => hn (hFG k hf)⟩
theorem Upd.trans' (h : Upd F a w) (k : Upd G w w') (hG : ∀ i, G i → F i ∨ a.heap.size ≤ i) : Upd F a w' :=
  ⟨k.os.trans h.os, k.tape.trans h.tape, k.output.trans h.output, Nat.le_trans h.size k.size, fun i hi hn =>
    (k.block i (Nat.lt_of_lt_of_le hi h.size) fun hg => by rcases hG i hg with h1 | h1; exact hn h1; omega).trans (h.block i hi hn)⟩
theorem Upd.trans (h : Upd F a w) (k : Upd F w w') : Upd F a w' := h.trans' k fun _ hi => .inl hi
theorem Upd.drew (h : Upd F a w) : Upd F a w.drew := ⟨h.os, h.tape, h.output, h.size, h.block⟩
theorem Upd.drewN (h : Upd F a w) (k : Nat) : Upd F a (w.drewN k) := ⟨h.os, h.tape, h.output, h.size, h.block⟩
theorem Upd.alloc (h : Upd F a w) (o : Obj) : Upd F a (w.alloc o) :=
  ⟨h.os, h.tape, h.output, by have := h.size; simp; omega, fun k hk hn => (Below.heap_alloc w o k (Nat.lt_of_lt_of_le hk h.size)).trans (h.block k hk hn)⟩
theorem Upd.setCell (h : Upd F a w) {p : Addr} (hp : F p.block ∨ a.heap.size ≤ p.block) (u : Value) : Upd F a (w.setCell p u) :=
  ⟨h.os, h.tape, h.output, by have := h.size; simpa using this, fun k hk hn =>
    (Below.heap_setCell w p u k (fun e => by subst e; rcases hp with h1 | h1; exact hn h1; omega)).trans (h.block k hk hn)⟩
theorem Upd.setRow (h : Upd F a w) {g : Nat} (hp : F g ∨ a.heap.size ≤ g) (cs : Array Value) : Upd F a (w.setRow g cs) :=
  ⟨h.os, h.tape, h.output, by have := h.size; simpa using this, fun k hk hn =>
    (setRow_other w g k cs (fun e => by subst e; rcases hp with h1 | h1; exact hn h1; omega)).trans (h.block k hk hn)⟩
theorem Upd.grown (h : Upd F a w) {row : Option Nat} (hg : w.grownBy w' row) (hp : ∀ k, row = some k → F k ∨ a.heap.size ≤ k) : Upd F a w' :=
  h.trans' (G := fun k => row = some k) ⟨hg.os, hg.tape, hg.output, hg.size, fun k hk hn => hg.block k hk fun e => hn e.symm⟩ hp
theorem Upd.heap (h : Upd F w w') {k : Nat} {o : Obj} (hk : w.heap[k]? = some o) (hn : ¬ F k) : w'.heap[k]? = some o :=
  (h.block k (Array.getElem?_eq_some_iff.1 hk).1 hn).trans hk
theorem Upd.cell (h : Upd F w w') {p : Addr} {v : Value} (hp : w.cell? p = some v) (hn : ¬ F p.block) : w'.cell? p = some v :=
  (World.cell?_of_block (h.block p.block (World.block_lt_of_cell? w p hp) hn)).trans hp
theorem Upd.frozen (h : Upd F w w') {p : Addr} (hp : p.block < w.heap.size) (hn : ¬ F p.block) : w'.frozen? p = w.frozen? p :=
  World.frozen?_of_block (h.block p.block hp hn)
theorem Upd.below {B : Nat} (h : Upd F w w') (hF : ∀ k, F k → B ≤ k) (hB : B ≤ w.heap.size) : Below B w w' :=
  ⟨h.os, h.tape, h.output, h.size, fun k hk => h.block k (by omega) fun hf => by have := hF k hf; omega⟩
/-- Blocks that are new are none of w's. -/
theorem Upd.strict (h : Upd F w w') (hF : ∀ k, F k → w.heap.size ≤ k) : Upd G w w' := ⟨h.os, h.tape, h.output, h.size, fun k hk _ => h.block k hk fun hf => by have := hF k hf; omega⟩
theorem Upd.of_below (h : Below w.heap.size w w') (F : Nat → Prop) : Upd F w w' := ⟨h.os, h.tape, h.output, h.size, fun k hk _ => h.block k hk⟩
end

theorem heap_lt {w : World} {k : Nat} {o : Obj} (h : w.heap[k]? = some o) : k < w.heap.size := (Array.getElem?_eq_some_iff.1 h).1
theorem heap_setCell_at {w : World} {g i : Nat} {cs : Array Value} {t : TypeId} {f : Nat × Nat} (v : Value) (hg : w.heap[g]? = some (.cells cs t f)) :
    (w.setCell ⟨g, i, none⟩ v).heap[g]? = some (.cells (cs.setIfInBounds i v) t f) := by
  simp only [World.setCell, Array.getElem?_modify, if_true, hg, Option.map_some]
  simp
theorem frozen_at {w : World} {g : Nat} {cs : Array Value} {t : TypeId} (hg : w.heap[g]? = some (.cells cs t (0, 0))) (j : Nat) : w.frozen? ⟨g, j, none⟩ = false := frozen_of_row w g j cs t hg
theorem cell_at {w : World} {g : Nat} {cs : Array Value} {t : TypeId} {f : Nat × Nat} (hg : w.heap[g]? = some (.cells cs t f)) (j : Nat) : w.cell? ⟨g, j, none⟩ = cs[j]? := cell_of_row w g j cs t f hg

/-! Bytes as cells -/
def B8 (c : UInt8) : Value := .int .u8 (c.toNat : Int)
def bv (l : List UInt8) : List Value := l.map B8
@[simp] theorem bv_length (l : List UInt8) : (bv l).length = l.length := by simp [bv]
@[simp] theorem bv_nil : bv [] = [] := rfl
theorem bv_append (l m : List UInt8) : bv (l ++ m) = bv l ++ bv m := by simp [bv]
theorem bv_take (l : List UInt8) (n : Nat) : bv (l.take n) = (bv l).take n := by simp [bv]
theorem bv_drop (l : List UInt8) (n : Nat) : bv (l.drop n) = (bv l).drop n := by simp [bv]
theorem bv_getElem? (l : List UInt8) (n : Nat) : (bv l)[n]? = (l[n]?).map B8 := by simp [bv]
theorem bv_oneCell (l : List UInt8) : ∀ u ∈ bv l, u.oneCell' = true := by
  intro u hu
  simp only [bv, List.mem_map] at hu
  obtain ⟨c, _, rfl⟩ := hu
  rfl

end Go.Proofs.YtjljnfmacechfaaGreatFmt

namespace Go.Proofs.YtjljnfmacechfaaGreatFmt
open Go.RowKit

/-- No text in these laws is longer. -/
def LIM : Nat := 1099511627776

/-- A slice of bytes that can be read: its block is none of F's. -/
def SliceRd (w : World) (F : Nat → Prop) (v : Value) (l : List UInt8) : Prop :=
  (v = .slice none 0 0 ∧ l = []) ∨ ∃ (a : Addr) (c : Nat), v = .slice (some a) l.length c ∧ (l ≠ [] → ¬ F a.block ∧ l.length ≤ c) ∧ ∀ (j : Nat) (u : Value), (bv l)[j]? = some u → w.cell? (a.add j) = some u

/-- A sink: an interface value that bytes are written to. I w F l: in w it has been written l; the blocks of F are its own. -/
structure Sink where
  ty : TypeId
  ptr : Addr
  wf : FuncId
  okb : UInt8 → Bool
  I : World → (Nat → Prop) → List UInt8 → Prop

structure Sink.Law (P : Program) (fuel : Nat) (s : Sink) : Prop where
  meth : ∀ w, (method fuel s.ty (.pointer (some s.ptr)) "Write").run P w = .ok (s.wf, .pointer (some s.ptr)) w
  ahead : ∀ w, (nilAhead fuel s.ty (.pointer (some s.ptr)) "Write").run P w = .ok (some false) w
  enters : ∀ args w, (callFunc s.wf args).run P w = .ok (.enter s.wf args) w
  stable : ∀ {w w' F G l}, s.I w F l → Upd G w w' → (∀ k, F k → ¬ G k) → s.I w' F l
  lt : ∀ {w F l}, s.I w F l → ∀ k, F k → k < w.heap.size
  write : ∀ {w F l v d}, s.I w F l → SliceRd w F v d → (∀ c ∈ d, s.okb c = true) → l.length + d.length ≤ LIM →
    Calls P s.wf #[.pointer (some s.ptr), v] w fun e w' => e = .returned (.tuple #[.int .i64 (d.length : Int), .nilIface]) ∧ ∃ F', s.I w' F' (l ++ d) ∧ (∀ k, F' k → F k ∨ w.heap.size ≤ k) ∧ Upd F w w'

/-- A bufio.Writer at block b over the sink s: 'inner' has come to the sink, 'pend' is in the buffer. -/
def BufP (s : Sink) (b : Nat) (w : World) (F : Nat → Prop) (inner pend : List UInt8) : Prop :=
  ∃ (g : Nat) (cur : Array Value) (Fs : Nat → Prop),
    w.heap[b]? = some (.cells #[.nilIface, .slice (some ⟨g, 0, none⟩) 4096 4096, .int .i64 (pend.length : Int), .iface s.ty (.pointer (some s.ptr))] 114 (0, 0)) ∧
    w.heap[g]? = some (.cells cur 5 (0, 0)) ∧ cur.size = 4096 ∧ pend.length ≤ 4096 ∧ cur.toList.take pend.length = bv pend ∧ (∀ c ∈ pend, s.okb c = true) ∧
    s.I w Fs inner ∧ b ≠ g ∧ ¬ Fs b ∧ ¬ Fs g ∧ (∀ k, F k ↔ k = b ∨ k = g ∨ Fs k)

/-- All that has been written to it. -/
def BufW (s : Sink) (b : Nat) (w : World) (F : Nat → Prop) (l : List UInt8) : Prop := ∃ inner pend, BufP s b w F inner pend ∧ l = inner ++ pend

theorem BufP.lt {P : Program} {fuel : Nat} {s : Sink} {b : Nat} {w : World} {F : Nat → Prop} {inner pend : List UInt8} (hs : s.Law P fuel) (h : BufP s b w F inner pend) : ∀ k, F k → k < w.heap.size := by
  obtain ⟨g, cur, Fs, hb, hg, _, _, _, _, hI, _, _, _, hF⟩ := h
  intro k hk
  rcases (hF k).1 hk with rfl | rfl | hk
  · exact heap_lt hb
  · exact heap_lt hg
  · exact hs.lt hI k hk
theorem BufP.stable {P : Program} {fuel : Nat} {s : Sink} {b : Nat} {w w' : World} {F G : Nat → Prop} {inner pend : List UInt8} (hs : s.Law P fuel) (h : BufP s b w F inner pend) (hu : Upd G w w') (hd : ∀ k, F k → ¬ G k) : BufP s b w' F inner pend := by
  obtain ⟨g, cur, Fs, hb, hg, h1, h2, h3, h4, hI, h5, h6, h7, hF⟩ := h
  exact ⟨g, cur, Fs, hu.heap hb (hd b ((hF b).2 (.inl rfl))), hu.heap hg (hd g ((hF g).2 (.inr (.inl rfl)))), h1, h2, h3, h4, hs.stable hI hu fun k hk => hd k ((hF k).2 (.inr (.inr hk))), h5, h6, h7, hF⟩
theorem BufW.stable {P : Program} {fuel : Nat} {s : Sink} {b : Nat} {w w' : World} {F G : Nat → Prop} {l : List UInt8} (hs : s.Law P fuel) (h : BufW s b w F l) (hu : Upd G w w') (hd : ∀ k, F k → ¬ G k) : BufW s b w' F l := by
  obtain ⟨i, p, hp, e⟩ := h
  exact ⟨i, p, hp.stable hs hu hd, e⟩
theorem BufW.lt {P : Program} {fuel : Nat} {s : Sink} {b : Nat} {w : World} {F : Nat → Prop} {l : List UInt8} (hs : s.Law P fuel) (h : BufW s b w F l) : ∀ k, F k → k < w.heap.size := by
  obtain ⟨i, p, hp, e⟩ := h
  exact hp.lt hs

end Go.Proofs.YtjljnfmacechfaaGreatFmt

namespace Go.Proofs.YtjljnfmacechfaaGreatFmt
open Go.RowKit

/-- A row of bytes in which d has been laid from place off on. -/
def laid (cur : Array Value) (off : Nat) (d : List UInt8) : Array Value := (cur.toList.take off ++ bv d ++ cur.toList.drop (off + d.length)).toArray
theorem laid_nil (cur : Array Value) (off : Nat) : laid cur off [] = cur := by simp [laid]
theorem laid_size {cur : Array Value} {off : Nat} {d : List UInt8} (h : off + d.length ≤ cur.size) : (laid cur off d).size = cur.size := by
  simp [laid]; omega
theorem laid_take {cur : Array Value} {l d : List UInt8} (ht : cur.toList.take l.length = bv l) :
    (laid cur l.length d).toList.take (l ++ d).length = bv (l ++ d) := by
  simp only [laid, ht, List.length_append]
  rw [← bv_append]
  have : l.length + d.length = (bv (l ++ d)).length := by simp
  rw [this, List.take_left]

section
variable {P : Program} (w : World) (dT sT ty elem : TypeId) (hu : P.underlying dT = some (.slice elem)) (hs : (P.info? elem).map (·.size) = some 1)
include hu hs
theorem run_copy_rd {F : Nat → Prop} {v : Value} {d : List UInt8} (hv : SliceRd w F v d) {g off dCap : Nat} {dp : Option Addr} {cur : Array Value} {t : TypeId} (hg : w.heap[g]? = some (.cells cur t (0, 0)))
    (hd : d ≠ [] → dp = some ⟨g, off, none⟩) (hfit : off + d.length ≤ cur.size) :
    (Builtin.copy_ #[dT, sT] ty #[.slice dp d.length dCap, v]).run P w = .ok (goInt d.length) (w.setRow g (laid cur off d)) := by
  by_cases h0 : d = []
  · subst h0
    rw [laid_nil, setRow_self w g cur t (0, 0) hg]
    rcases hv with ⟨rfl, _⟩ | ⟨a, c, rfl, _⟩
    · exact run_copy_none w dT sT ty elem dp none 0 dCap 0 0 hu hs rfl
    · exact run_copy_none w dT sT ty elem dp (some a) 0 dCap 0 c hu hs rfl
  · obtain rfl := hd h0
    rcases hv with ⟨_, h1⟩ | ⟨a, c, rfl, _, hr⟩
    · exact absurd h1 h0
    · have h := run_copy_row (P := P) w dT sT ty elem g off d.length dCap a d.length c cur t (bv d) hu hs hg (by simp) hr (by simpa using hfit) (bv_oneCell d)
      simpa [laid] using h
theorem run_copy_str {s : ByteArray} {g off dLen dCap : Nat} {dp : Option Addr} {cur : Array Value} {t : TypeId} (hg : w.heap[g]? = some (.cells cur t (0, 0)))
    (hd : 0 < s.size → 0 < dLen → dp = some ⟨g, off, none⟩) (hfit : off + min s.size dLen ≤ cur.size) :
    (Builtin.copy_ #[dT, sT] ty #[.slice dp dLen dCap, .string s]).run P w = .ok (goInt (min s.size dLen : Nat)) (w.setRow g (laid cur off (s.data.toList.take dLen))) := by
  have hsz : s.size = s.data.toList.length := rfl
  have hlen : (s.data.toList.take dLen).length = min s.size dLen := by rw [List.length_take, hsz]; omega
  have hmin : Nat.min s.size dLen = min s.size dLen := rfl
  have htk : List.take (min s.size dLen) (List.map (fun b : UInt8 => Value.int .u8 (b.toNat : Int)) s.data.toList) = bv (s.data.toList.take dLen) := by
    rw [bv_take]
    apply List.take_eq_take_iff.2
    rw [List.length_map, hsz]
    omega
  cases hq : P.info? elem with
  | none => simp [hq] at hs
  | some i =>
    by_cases h0 : min s.size dLen = 0
    · have hnil : s.data.toList.take dLen = [] := List.eq_nil_of_length_eq_zero (by omega)
      rw [hnil, laid_nil, setRow_self w g cur t (0, 0) hg, h0]
      cases dp <;> simp [Builtin.copy_, run_underlying hu, Builtin.lenOf, Builtin.firstCells, sizeOf, typeInfo, hq, hmin, h0, storeCells]
    · obtain rfl := hd (by omega) (by omega)
      have hst := run_storeCells_at P g off t (bv (s.data.toList.take dLen)) 0 cur w hg (by rw [bv_length, hlen]; omega) (bv_oneCell _)
      simp only [Nat.add_zero, bv_length] at hst
      simp [Builtin.copy_, run_underlying hu, Builtin.lenOf, Builtin.firstCells, sizeOf, typeInfo, hq, hmin]
      rw [htk, hst]
      simp [laid, Result.andThen]
end
end Go.Proofs.YtjljnfmacechfaaGreatFmt

namespace Go.Proofs.YtjljnfmacechfaaGreatFmt
open Go.RowKit

theorem ownsRow_mono {w : World} {B : Nat} {e : TypeId} {size : Nat} {v : Value} {n : Nat} {xs : List Value} (h : w.ownsRow B e size v n xs) : w.ownsRow 0 e size v n xs := by
  refine ⟨h.1, ?_⟩
  rcases h.2 with h | ⟨g, cap, cur, h1, _, h2⟩
  · exact .inl h
  · exact .inr ⟨g, cap, cur, h1, Nat.zero_le _, h2⟩

theorem append_own {P : Program} (w : World) (t ty e : TypeId) (i : TypeInfo) (z : Value) (size bytes : Nat) (ht : P.underlying t = some (.slice e)) (hi : P.info? e = some i) (hz : i.zero = some z)
    (hsize : i.size = size) (hby : i.bytes = bytes) (hzs : z.cells.size = size) (hsz : 0 < size) {v : Value} {n : Nat} {xs : List Value} (h : w.ownsRow 0 e size v n xs)
    (a : Addr) (m c : Nat) (news : List Value) (hl : news.length = m * size) (hnews : ∀ j u, news[j]? = some u → w.cell? (a.add j) = some u) (h1 : ∀ u ∈ news, u.oneCell' = true)
    (h63 : n + m ≤ maxLen) (hbytes : (n + m) * bytes ≤ 140737488355328) :
    ∃ v' w', (Builtin.append_ #[t, t] ty #[v, .slice (some a) m c]).run P w = .ok v' w' ∧ w'.ownsRow 0 e size v' (n + m) (xs ++ news) ∧ w.grownBy w' v.ownBlock ∧ (∀ k, v'.ownBlock = some k → v.ownBlock = some k ∨ w.heap.size ≤ k) := by
  have hm : maxLen = 9223372036854775807 := rfl
  rcases h.2 with ⟨rfl, h0⟩ | ⟨g, cap, cur, rfl, _, hg, hnc, hcm, hcs, htk⟩
  · subst h0
    have hx : xs = [] := List.length_eq_zero_iff.1 (by simpa using h.1)
    subst hx
    obtain ⟨v', w', hr, ho, hgr, _⟩ := run_append_own (P := P) w w.heap.size t ty e i z size bytes ht hi hz hsize hby hzs hsz (.slice none 0 0) 0 [] (World.ownsRow_nil _ _ _ _) a m c news hl hnews h1 h63 hbytes (Nat.le_refl _)
    exact ⟨v', w', hr, ownsRow_mono ho, hgr, fun k hk => .inr (ho.lt k hk).1⟩
  · by_cases hroom : n + m ≤ cap
    · obtain ⟨w', hr, ho, hgr⟩ := run_append_fits (P := P) w 0 t ty e i size ht hi hsize g n cap xs h a m c news hl hnews h1 hroom
      exact ⟨_, w', hr, ho, hgr, fun k hk => .inl hk⟩
    · obtain ⟨v', w', hr, ho, hgr, _⟩ := run_append_own (P := P) w 0 t ty e i z size bytes ht hi hz hsize hby hzs hsz _ _ _ h a m c news hl hnews h1 h63 hbytes (Nat.zero_le _)
      have hgr2 : ∃ n' c2 w2, (Builtin.append_ #[t, t] ty #[.slice (some ⟨g, 0, none⟩) n cap, .slice (some a) m c]).run P w = .ok (.slice (some ⟨w.heap.size, 0, none⟩) n' c2) w2 := by
        refine ⟨_, _, _, run_append_grow (P := P) w t ty e i z ht hi hz ⟨g, 0, none⟩ n cap xs (by rw [hsize]; exact h.1) (fun j u hj => h.cells rfl j u hj) a m c news (by rw [hsize]; exact hl) hnews (by omega) (by omega) ?_⟩
        rw [hby]
        exact growslice_fits (by omega) hbytes
      obtain ⟨n', c2, w2, hr2⟩ := hgr2
      have he := hr.symm.trans hr2
      simp only [Result.ok.injEq] at he
      obtain ⟨rfl, rfl⟩ := he
      refine ⟨_, _, hr, ho, hgr, fun k hk => .inr ?_⟩
      simp only [Value.ownBlock, Option.some.injEq] at hk
      omega
end Go.Proofs.YtjljnfmacechfaaGreatFmt

namespace Go.Proofs.YtjljnfmacechfaaGreatFmt
open Go.RowKit

/-- A copy whose run is known, at the operation. -/
theorem wpList_copy_run {P : Program} {w w' : World} {ops : Array Oper} {rest : List Oper} {o : Oper} {a : Act} {Q : Exit → Act → World → Prop} (hgd : o.guard = none) (s x : Operand) (ts : Array TypeId)
    (ho : o.op = .call { callee := .builtin .copy, args := #[s, x], argTypes := ts }) {u v v' : Value} (hs : a.eval s = u) (hx : a.eval x = v)
    (hr : (Builtin.copy_ ts o.type #[u, v]).run P w = .ok v' w') (h : wpList P ops Q rest (a.put o.dst v') w') : wpList P ops Q (o :: rest) a w := by
  refine wpList_plain hgd fun _ hK => ?_
  unfold Oper.wp execOp
  simp only [ho, resolve, invoke, builtin, Sem.run_bind, Sem.run_pure, Result.andThen_ok, List.map_toArray, List.map_cons, List.map_nil, hs, hx, hr]
  exact hK _ _ h

/-- An append whose run is known, at a step of a region that draws its order. -/
theorem step_append_run {P : Program} {w w' : World} {ops : Array Oper} {o : Oper} {a : Act} {K : Act → World → Prop} {Q : Exit → Act → World → Prop} {E : Prop} (hgd : o.guard = none) (s x : Operand) (ts : Array TypeId)
    (ho : o.op = .call { callee := .builtin .append, args := #[s, x], argTypes := ts }) {u v v' : Value} (hs : a.eval s = u) (hx : a.eval x = v)
    (hr : (Builtin.append_ ts o.type #[u, v]).run P w = .ok v' w') (h : K (a.put o.dst v') w') : if Region.wanted o (yielded ops a.tmps) = true then Oper.wp P o a w K Q else E := by
  have hw : Region.wanted o (yielded ops a.tmps) = true := by simp [Region.wanted, hgd]
  rw [if_pos hw]
  unfold Oper.wp execOp
  simp only [ho, resolve, invoke, builtin, Sem.run_bind, Sem.run_pure, Result.andThen_ok, List.map_toArray, List.map_cons, List.map_nil, hs, hx, hr]
  exact h

end Go.Proofs.YtjljnfmacechfaaGreatFmt

namespace Go.Proofs.YtjljnfmacechfaaGreatFmt
open Go.RowKit

theorem asrt_same {P : Program} {t e : TypeId} (h : P.underlying t = some (.pointer e)) (xT : TypeId) (v : Value) (w : World) :
    (Instr.typeAssert (.iface t v) xT t true).run P w = .ok (.tuple #[v, .bool true]) w := by
  simp [Instr.typeAssert, run_underlying h]
theorem asrt_other {P : Program} {t tt e : TypeId} (h : P.underlying tt = some (.pointer e)) (hz : (P.info? tt).map (·.zero) = some (some (.pointer none))) (hne : (t == tt) = false) (xT : TypeId) (v : Value) (w : World) :
    (Instr.typeAssert (.iface t v) xT tt true).run P w = .ok (.tuple #[.pointer none, .bool false]) w := by
  obtain ⟨i, hi, hz'⟩ := Option.map_eq_some_iff.1 hz
  have hne' : ¬ t = tt := by simpa using hne
  simp [Instr.typeAssert, run_underlying h, hne', zeroValue, typeInfo, hi, hz']

/-- What a call leaves, behind a variable: the walk does not open it. -/
theorem callsVar {P : Program} {f : FuncId} {args : Array Value} {w : World} {Q : Ending → World → Prop} (h : Calls P f args w Q) : ∃ Q', RowKit.Hid (∀ e w', Q' e w' → Q e w') ∧ RowKit.Hid (Calls P f args w Q') := ⟨Q, fun _ _ h => h, h⟩

end Go.Proofs.YtjljnfmacechfaaGreatFmt

namespace Go.Proofs.YtjljnfmacechfaaGreatFmt
open Go.RowKit

theorem addr_block (a : Addr) (j : Nat) : (a.add j).block = a.block := by unfold Addr.add; split <;> rfl

def StrsRd (w : World) (v : Value) (L : List ByteArray) : Prop :=
  (v = .slice none 0 0 ∧ L = []) ∨ ∃ (a : Addr) (c : Nat), v = .slice (some a) L.length c ∧ L.length ≤ c ∧ ∀ (j : Nat) (b : ByteArray), L[j]? = some b → w.cell? (a.add j) = some (.string b)
theorem StrsRd.quiet {w w' : World} {v : Value} {L : List ByteArray} (h : StrsRd w v L) (hu : Upd (fun _ => False) w w') : StrsRd w' v L := by
  rcases h with h | ⟨a, c, h1, h2, h3⟩
  · exact .inl h
  · exact .inr ⟨a, c, h1, h2, fun j b hj => hu.cell (h3 j b hj) fun h => h⟩

def UintsRd (w : World) (v : Value) (L : List Nat) : Prop :=
  (v = .slice none 0 0 ∧ L = []) ∨ ∃ (a : Addr) (c : Nat), v = .slice (some a) L.length c ∧ L.length ≤ c ∧ ∀ (j : Nat) (b : Nat), L[j]? = some b → w.cell? (a.add j) = some (.int .u64 (b : Int))
theorem UintsRd.quiet {w w' : World} {v : Value} {L : List Nat} (h : UintsRd w v L) (hu : Upd (fun _ => False) w w') : UintsRd w' v L := by
  rcases h with h | ⟨a, c, h1, h2, h3⟩
  · exact .inl h
  · exact .inr ⟨a, c, h1, h2, fun j b hj => hu.cell (h3 j b hj) fun h => h⟩

/-- A readable slice of small numbers. -/
def KsRd (w : World) (v : Value) (ks : List Nat) : Prop :=
  (v = .slice none 0 0 ∧ ks = []) ∨ ∃ (a : Addr) (c : Nat), v = .slice (some a) ks.length c ∧ ks.length ≤ c ∧ ∀ (j : Nat) (k : Nat), ks[j]? = some k → w.cell? (a.add j) = some (.int .u8 (k : Int))
end Go.Proofs.YtjljnfmacechfaaGreatFmt

namespace Go.Proofs.YtjljnfmacechfaaGreatFmt
open Go.RowKit

/-- An append whose run is known, at the operation. -/
theorem wpList_append_run {P : Program} {w w' : World} {ops : Array Oper} {rest : List Oper} {o : Oper} {a : Act} {Q : Exit → Act → World → Prop} (hgd : o.guard = none) (s x : Operand) (ts : Array TypeId)
    (ho : o.op = .call { callee := .builtin .append, args := #[s, x], argTypes := ts }) {u v v' : Value} (hs : a.eval s = u) (hx : a.eval x = v)
    (hr : (Builtin.append_ ts o.type #[u, v]).run P w = .ok v' w') (h : wpList P ops Q rest (a.put o.dst v') w') : wpList P ops Q (o :: rest) a w := by
  refine wpList_plain hgd fun _ hK => ?_
  unfold Oper.wp execOp
  simp only [ho, resolve, invoke, builtin, Sem.run_bind, Sem.run_pure, Result.andThen_ok, List.map_toArray, List.map_cons, List.map_nil, hs, hx, hr]
  exact hK _ _ h

/-- v is the nil slice, or the head of a row of bytes: it holds l. -/
def Row (w : World) (v : Value) (l : List UInt8) : Prop := w.ownsRow 0 5 1 v l.length (bv l)

theorem Row.mono {w : World} {B : Nat} {v : Value} {n : Nat} {xs : List Value} (h : w.ownsRow B 5 1 v n xs) : w.ownsRow 0 5 1 v n xs := by
  refine ⟨h.1, ?_⟩
  rcases h.2 with h | ⟨g, cap, cur, h1, _, h2⟩
  · exact .inl h
  · exact .inr ⟨g, cap, cur, h1, Nat.zero_le _, h2⟩

theorem Row.base {w : World} {B : Nat} {v : Value} {l : List UInt8} (h : Row w v l) (hB : ∀ k, v.ownBlock = some k → B ≤ k) : w.ownsRow B 5 1 v l.length (bv l) := by
  refine ⟨h.1, ?_⟩
  rcases h.2 with h | ⟨g, cap, cur, rfl, _, h2⟩
  · exact .inl h
  · exact .inr ⟨g, cap, cur, rfl, hB g rfl, h2⟩

theorem Row.form {w : World} {v : Value} {l : List UInt8} (h : Row w v l) : ∃ ao c, v = .slice ao l.length c := by
  rcases h.2 with ⟨rfl, h0⟩ | ⟨g, cap, cur, rfl, _⟩
  · exact ⟨none, 0, by rw [h0]⟩
  · exact ⟨_, _, rfl⟩

theorem Row.nil (w : World) : Row w (.slice none 0 0) [] := World.ownsRow_nil _ _ _ _

theorem Row.stable {w w' : World} {F : Nat → Prop} {v : Value} {l : List UInt8} (h : Row w v l) (hu : Upd F w w') (hn : ∀ k, v.ownBlock = some k → ¬ F k) : Row w' v l := by
  refine ⟨h.1, ?_⟩
  rcases h.2 with h | ⟨g, cap, cur, rfl, h1, h2, h3⟩
  · exact .inl h
  · exact .inr ⟨g, cap, cur, rfl, h1, hu.heap h2 (hn g rfl), h3⟩

theorem SliceRd.stable {w w' : World} {F G : Nat → Prop} {v : Value} {l : List UInt8} (h : SliceRd w F v l) (hu : Upd G w w') (hg : ∀ k, G k → F k) : SliceRd w' F v l := by
  rcases h with h | ⟨a, c, rfl, h1, h2⟩
  · exact .inl h
  · refine .inr ⟨a, c, rfl, h1, fun j u hj => ?_⟩
    have hne : l ≠ [] := by rintro rfl; simp at hj
    refine hu.cell (h2 j u hj) fun hf => (h1 hne).1 ?_
    have hb : (a.add j).block = a.block := by unfold Addr.add; split <;> rfl
    rw [← hb]
    exact hg _ hf

set_option maxRecDepth 100000 in
theorem append_row {w : World} {v x : Value} {l d : List UInt8} {F : Nat → Prop} (h : Row w v l) (hx : SliceRd w F x d) (hlim : l.length + d.length ≤ LIM) :
    ∃ v' w', (Builtin.append_ #[22, 22] 22 #[v, x]).run Tryz.prog w = .ok v' w' ∧ Row w' v' (l ++ d) ∧ w.grownBy w' v.ownBlock ∧ (∀ k, v'.ownBlock = some k → v.ownBlock = some k ∨ w.heap.size ≤ k) := by
  have ht : Tryz.prog.underlying 22 = some (.slice 5) := Tryz.underlying22
  obtain ⟨i, hi, hz, hsz, hby⟩ : ∃ i, Tryz.prog.info? 5 = some i ∧ i.zero = some (.int .u8 0) ∧ i.size = 1 ∧ i.bytes = 1 := ⟨_, rfl, rfl, rfl, rfl⟩
  rcases hx with ⟨rfl, rfl⟩ | ⟨a, c, rfl, _, hrd⟩
  · refine ⟨v, w, run_append_owned_none (P := Tryz.prog) w 0 22 22 5 i 1 ht hi v _ _ h, by rw [List.append_nil]; exact h, .refl _ _, fun k hk => .inl hk⟩
  have hlen : (bv d).length = d.length * 1 := by simp
  have hm : maxLen = 9223372036854775807 := rfl
  have hl : LIM = 1099511627776 := rfl
  rcases h.2 with ⟨rfl, h0⟩ | ⟨g, cap, cur, rfl, _, hg, hnc, hcm, hcs, htk⟩
  · have hle : l = [] := List.length_eq_zero_iff.1 h0
    subst hle
    obtain ⟨v', w', hr, ho, hgr, _⟩ := run_append_own (P := Tryz.prog) w w.heap.size 22 22 5 i (.int .u8 0) 1 1 ht hi hz hsz hby rfl (by decide) (.slice none 0 0) 0 [] (World.ownsRow_nil _ _ _ _) a d.length c (bv d) hlen hrd (bv_oneCell d)
      (by simp only [List.length_nil] at hlim; omega) (by simp only [List.length_nil] at hlim; omega) (Nat.le_refl _)
    refine ⟨v', w', hr, ?_, hgr, fun k hk => .inr (ho.lt k hk).1⟩
    have := Row.mono ho
    simpa [Row] using this
  · by_cases hroom : l.length + d.length ≤ cap
    · obtain ⟨w', hr, ho, hgr⟩ := run_append_fits (P := Tryz.prog) w 0 22 22 5 i 1 ht hi hsz g l.length cap (bv l) h a d.length c (bv d) hlen hrd (bv_oneCell d) hroom
      refine ⟨_, w', hr, ?_, hgr, fun k hk => .inl hk⟩
      unfold Row
      rw [List.length_append, bv_append]
      exact ho
    · obtain ⟨v', w', hr, ho, hgr, _⟩ := run_append_own (P := Tryz.prog) w 0 22 22 5 i (.int .u8 0) 1 1 ht hi hz hsz hby rfl (by decide) _ _ _ h a d.length c (bv d) hlen hrd (bv_oneCell d)
        (by omega) (by omega) (Nat.zero_le _)
      have hgr2 : ∃ n c2 w2, (Builtin.append_ #[22, 22] 22 #[.slice (some ⟨g, 0, none⟩) l.length cap, .slice (some a) d.length c]).run Tryz.prog w = .ok (.slice (some ⟨w.heap.size, 0, none⟩) n c2) w2 := by
        refine ⟨_, _, _, run_append_grow (P := Tryz.prog) w 22 22 5 i (.int .u8 0) ht hi hz ⟨g, 0, none⟩ l.length cap (bv l) (by rw [hsz]; simp) (fun j u hj => h.cells rfl j u hj) a d.length c (bv d) (by rw [hsz]; simp) hrd (by omega) (by omega) ?_⟩
        rw [hby]
        exact growslice_fits (by omega) (by omega)
      obtain ⟨n, c2, w2, hr2⟩ := hgr2
      have he := hr.symm.trans hr2
      simp only [Result.ok.injEq] at he
      obtain ⟨rfl, rfl⟩ := he
      refine ⟨_, _, hr, ?_, hgr, fun k hk => .inr ?_⟩
      · unfold Row
        rw [List.length_append, bv_append]
        exact ho
      · simp only [Value.ownBlock, Option.some.injEq] at hk
        omega

end Go.Proofs.YtjljnfmacechfaaGreatFmt

namespace Go.Proofs.YtjljnfmacechfaaGreatFmt
open Go.RowKit

theorem str_of_row {w : World} {v : Value} {l : List UInt8} (h : Row w v l) : (convert 22 9 v).run Tryz.prog w = .ok (.string ⟨l.toArray⟩) w := by
  rcases h.2 with ⟨rfl, h0⟩ | ⟨g, cap, cur, rfl, _, hg, _, _, _, htk⟩
  · obtain rfl := List.length_eq_zero_iff.1 h0
    rw [run_convert_bytes_string w 22 9 5 none 0 0 Tryz.underlying22 Tryz.underlying5 Tryz.underlying9]
    rfl
  · refine run_convert_bytes_back w 22 9 5 ⟨g, 0, none⟩ cap l Tryz.underlying22 Tryz.underlying5 Tryz.underlying9 (fun j hj => ?_)
    exact h.cells rfl j _ (by rw [bv_getElem?, List.getElem?_eq_getElem hj]; rfl)

end Go.Proofs.YtjljnfmacechfaaGreatFmt
