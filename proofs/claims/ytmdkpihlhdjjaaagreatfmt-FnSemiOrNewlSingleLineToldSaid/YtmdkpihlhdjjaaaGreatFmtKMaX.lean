/-
  The frame notions that all contracts of this claim use: a world that is another but for some blocks; rows of bytes; the abstract sink of a writer. Plain Lean over the model's worlds: no function of the program is named here.
  The abstract sink of a writer, and a bufio.Writer over a sink. No function of the program is named here but by its number.
  The builtin copy into a row of bytes, from a readable slice and from a string. Plain laws over the model's worlds.
  append onto a row that is owned, cells of whatever size: with the block of the result said.
  A builtin whose run is known, at the operation of a walk.
  Type assertions at a pointer type, with ok: what each makes.
  Readable slices of strings and of numbers.
  A row of bytes that a writer owns, and what append makes of it, with the block of the result said.
  The string of a row of bytes.
  Small functions below a word's print: Pos.Line, Lit.Pos, Lit.End, the search for one byte.
  Positions: NewPos.
  A row of bytes that a call makes for itself: what make and append make of it.
-/
import Derived.WalkKit
import Derived.WalkSpells
import Derived.WalkLawsBesides
import Derived.Deep.Draws
import Derived.Laws.OwnMore
import Derived.Lib.Hide
import Derived.Test.YtmdkpihlhdjjaaaGreatFmtProg
import Derived.Laws.IdiomStrings
import Derived.Deep.LoopGhost
import Derived.Laws.BitsAllLaws
import Derived.Lib.AppendStr
namespace Go.Proofs.YtmdkpihlhdjjaaaGreatFmt
open Go.RowKit

/-- w' is w but for the blocks in F and for new blocks. -/
structure Upd (F : Nat → Prop) (w w' : World) : Prop where
  os : w'.os = w.os
  tape : w'.tape = w.tape
  output : w'.output = w.output
  size : w.heap.size ≤ w'.heap.size
  block : ∀ k, k < w.heap.size → ¬ F k → w'.heap[k]? = w.heap[k]?

section
variable {F G H : Nat → Prop} {a w w' w1 : World}
theorem Upd.refl (F : Nat → Prop) (w : World) : Upd F w w := ⟨rfl, rfl, rfl, Nat.le_refl _, fun _ _ _ => rfl⟩
theorem Upd.mono (h : Upd F w w') (hFG : ∀ k, F k → G k) : Upd G w w' := ⟨h.os, h.tape, h.output, h.size, fun k hk hn => h.block k hk fun hf => hn (hFG k hf)⟩
theorem Upd.trans' (h : Upd F a w) (k : Upd G w w') (hG : ∀ i, G i → F i ∨ a.heap.size ≤ i) : Upd F a w' :=
  ⟨k.os.trans h.os, k.tape.trans h.tape, k.output.trans h.output, Nat.le_trans h.size k.size, fun i hi hn =>
    (k.block i (Nat.lt_of_lt_of_le hi h.size) fun hg => by rcases hG i hg with h1 | h1; exact hn h1; omega).trans (h.block i hi hn)⟩
theorem Upd.trans (h : Upd F a w) (k : Upd F w w') : Upd F a w' := h.trans' k fun _ hi => .inl hi
theorem Upd.drew (h : Upd F a w) : Upd F a w.drew := ⟨h.os, h.tape, h.output, h.size, h.block⟩
theorem Upd.drewN (h : Upd F a w) (k : Nat) : Upd F a (w.drewN k) := ⟨h.os, h.tape, h.output, h.size, h.block⟩
theorem Upd.alloc (h : Upd F a w) (o : Obj) : Upd F a (w.alloc o) :=
  ⟨h.os, h.tape, h.output, by have := h.size; simp; omega, fun k hk hn => (Below.heap_alloc w o k (Nat.lt_of_lt_of_le hk h.size)).trans (h.block k hk hn)⟩
theorem Upd.setCell (h : Upd F a w) {p : Addr} (hp : F p.block ∨ a.heap.size ≤ p.block) (u : Value) : Upd F a (w.setCell p u) :=
  ⟨h.os, h.tape, h.output, by have := h.size; simpa using this, fun k hk hn =>
    (Below.heap_setCell w p u k (fun e => by subst e; rcases hp with h1 | h1; exact hn h1; omega)).trans (h.block k hk hn)⟩
theorem Upd.setRow (h : Upd F a w) {g : Nat} (hp : F g ∨ a.heap.size ≤ g) (cs : Array Value) : Upd F a (w.setRow g cs) :=
  ⟨h.os, h.tape, h.output, by have := h.size; simpa using this, fun k hk hn =>
    (setRow_other w g k cs (fun e => by subst e; rcases hp with h1 | h1; exact hn h1; omega)).trans (h.block k hk hn)⟩
theorem Upd.grown (h : Upd F a w) {row : Option Nat} (hg : w.grownBy w' row) (hp : ∀ k, row = some k → F k ∨ a.heap.size ≤ k) : Upd F a w' :=
  h.trans' (G := fun k => row = some k) ⟨hg.os, hg.tape, hg.output, hg.size, fun k hk hn => hg.block k hk fun e => hn e.symm⟩ hp
theorem Upd.heap (h : Upd F w w') {k : Nat} {o : Obj} (hk : w.heap[k]? = some o) (hn : ¬ F k) : w'.heap[k]? = some o :=
  (h.block k (Array.getElem?_eq_some_iff.1 hk).1 hn).trans hk
theorem Upd.cell (h : Upd F w w') {p : Addr} {v : Value} (hp : w.cell? p = some v) (hn : ¬ F p.block) : w'.cell? p = some v :=
  (World.cell?_of_block (h.block p.block (World.block_lt_of_cell? w p hp) hn)).trans hp
theorem Upd.frozen (h : Upd F w w') {p : Addr} (hp : p.block < w.heap.size) (hn : ¬ F p.block) : w'.frozen? p = w.frozen? p :=
  World.frozen?_of_block (h.block p.block hp hn)
theorem Upd.below {B : Nat} (h : Upd F w w') (hF : ∀ k, F k → B ≤ k) (hB : B ≤ w.heap.size) : Below B w w' :=
  ⟨h.os, h.tape, h.output, h.size, fun k hk => h.block k (by omega) fun hf => by have := hF k hf; omega⟩
/-- Blocks that are new are none of w's. -/
theorem Upd.strict (h : Upd F w w') (hF : ∀ k, F k → w.heap.size ≤ k) : Upd G w w' := ⟨h.os, h.tape, h.output, h.size, fun k hk _ => h.block k hk fun hf => by have := hF k hf; omega⟩
theorem Upd.of_below (h : Below w.heap.size w w') (F : Nat → Prop) : Upd F w w' := ⟨h.os, h.tape, h.output, h.size, fun k hk _ => h.block k hk⟩
end

theorem heap_lt {w : World} {k : Nat} {o : Obj} (h : w.heap[k]? = some o) : k < w.heap.size := (Array.getElem?_eq_some_iff.1 h).1
theorem heap_setCell_at {w : World} {g i : Nat} {cs : Array Value} {t : TypeId} {f : Nat × Nat} (v : Value) (hg : w.heap[g]? = some (.cells cs t f)) :
    (w.setCell ⟨g, i, none⟩ v).heap[g]? = some (.cells (cs.setIfInBounds i v) t f) := by
  simp only [World.setCell, Array.getElem?_modify, if_true, hg, Option.map_some]
  simp
theorem frozen_at {w : World} {g : Nat} {cs : Array Value} {t : TypeId} (hg : w.heap[g]? = some (.cells cs t (0, 0))) (j : Nat) : w.frozen? ⟨g, j, none⟩ = false := frozen_of_row w g j cs t hg
theorem cell_at {w : World} {g : Nat} {cs : Array Value} {t : TypeId} {f : Nat × Nat} (hg : w.heap[g]? = some (.cells cs t f)) (j : Nat) : w.cell? ⟨g, j, none⟩ = cs[j]? := cell_of_row w g j cs t f hg

/-! Bytes as cells -/
def B8 (c : UInt8) : Value := .int .u8 (c.toNat : Int)
def bv (l : List UInt8) : List Value := l.map B8
@[simp] theorem bv_length (l : List UInt8) : (bv l).length = l.length := by simp [bv]
@[simp] theorem bv_nil : bv [] = [] := rfl
theorem bv_append (l m : List UInt8) : bv (l ++ m) = bv l ++ bv m := by simp [bv]
theorem bv_take (l : List UInt8) (n : Nat) : bv (l.take n) = (bv l).take n := by simp [bv]
theorem bv_drop (l : List UInt8) (n : Nat) : bv (l.drop n) = (bv l).drop n := by simp [bv]
theorem bv_getElem? (l : List UInt8) (n : Nat) : (bv l)[n]? = (l[n]?).map B8 := by simp [bv]
theorem bv_oneCell (l : List UInt8) : ∀ u ∈ bv l, u.oneCell' = true := by
  intro u hu
  simp only [bv, List.mem_map] at hu
  obtain ⟨c, _, rfl⟩ := hu
  rfl

end Go.Proofs.YtmdkpihlhdjjaaaGreatFmt

namespace Go.Proofs.YtmdkpihlhdjjaaaGreatFmt
open Go.RowKit

/-- No text in these laws is longer. -/
def LIM : Nat := 1099511627776

/-- A slice of bytes that can be read: its block is none of F's. -/
def SliceRd (w : World) (F : Nat → Prop) (v : Value) (l : List UInt8) : Prop :=
  (v = .slice none 0 0 ∧ l = []) ∨ ∃ (a : Addr) (c : Nat), v = .slice (some a) l.length c ∧ (l ≠ [] → ¬ F a.block ∧ l.length ≤ c) ∧ ∀ (j : Nat) (u : Value), (bv l)[j]? = some u → w.cell? (a.add j) = some u

/-- A sink: an interface value that bytes are written to. I w F l: in w it has been written l; the blocks of F are its own. -/
structure Sink where
  ty : TypeId
  ptr : Addr
  wf : FuncId
  okb : UInt8 → Bool
  I : World → (Nat → Prop) → List UInt8 → Prop

structure Sink.Law (P : Program) (fuel : Nat) (s : Sink) : Prop where
  meth : ∀ w, (method fuel s.ty (.pointer (some s.ptr)) "Write").run P w = .ok (s.wf, .pointer (some s.ptr)) w
  ahead : ∀ w, (nilAhead fuel s.ty (.pointer (some s.ptr)) "Write").run P w = .ok (some false) w
  enters : ∀ args w, (callFunc s.wf args).run P w = .ok (.enter s.wf args) w
  stable : ∀ {w w' F G l}, s.I w F l → Upd G w w' → (∀ k, F k → ¬ G k) → s.I w' F l
  lt : ∀ {w F l}, s.I w F l → ∀ k, F k → k < w.heap.size
  write : ∀ {w F l v d}, s.I w F l → SliceRd w F v d → (∀ c ∈ d, s.okb c = true) → l.length + d.length ≤ LIM →
    Calls P s.wf #[.pointer (some s.ptr), v] w fun e w' => e = .returned (.tuple #[.int .i64 (d.length : Int), .nilIface]) ∧ ∃ F', s.I w' F' (l ++ d) ∧ (∀ k, F' k → F k ∨ w.heap.size ≤ k) ∧ Upd F w w'

/-- A bufio.Writer at block b over the sink s: 'inner' has come to the sink, 'pend' is in the buffer. -/
def BufP (s : Sink) (b : Nat) (w : World) (F : Nat → Prop) (inner pend : List UInt8) : Prop :=
  ∃ (g : Nat) (cur : Array Value) (Fs : Nat → Prop),
    w.heap[b]? = some (.cells #[.nilIface, .slice (some ⟨g, 0, none⟩) 4096 4096, .int .i64 (pend.length : Int), .iface s.ty (.pointer (some s.ptr))] 285 (0, 0)) ∧
    w.heap[g]? = some (.cells cur 5 (0, 0)) ∧ cur.size = 4096 ∧ pend.length ≤ 4096 ∧ cur.toList.take pend.length = bv pend ∧ (∀ c ∈ pend, s.okb c = true) ∧
    s.I w Fs inner ∧ b ≠ g ∧ ¬ Fs b ∧ ¬ Fs g ∧ (∀ k, F k ↔ k = b ∨ k = g ∨ Fs k)

/-- All that has been written to it. -/
def BufW (s : Sink) (b : Nat) (w : World) (F : Nat → Prop) (l : List UInt8) : Prop := ∃ inner pend, BufP s b w F inner pend ∧ l = inner ++ pend

theorem BufP.lt {P : Program} {fuel : Nat} {s : Sink} {b : Nat} {w : World} {F : Nat → Prop} {inner pend : List UInt8} (hs : s.Law P fuel) (h : BufP s b w F inner pend) : ∀ k, F k → k < w.heap.size := by
  obtain ⟨g, cur, Fs, hb, hg, _, _, _, _, hI, _, _, _, hF⟩ := h
  intro k hk
  rcases (hF k).1 hk with rfl | rfl | hk
  · exact heap_lt hb
  · exact heap_lt hg
  · exact hs.lt hI k hk
theorem BufP.stable {P : Program} {fuel : Nat} {s : Sink} {b : Nat} {w w' : World} {F G : Nat → Prop} {inner pend : List UInt8} (hs : s.Law P fuel) (h : BufP s b w F inner pend) (hu : Upd G w w') (hd : ∀ k, F k → ¬ G k) : BufP s b w' F inner pend := by
  obtain ⟨g, cur, Fs, hb, hg, h1, h2, h3, h4, hI, h5, h6, h7, hF⟩ := h
  exact ⟨g, cur, Fs, hu.heap hb (hd b ((hF b).2 (.inl rfl))), hu.heap hg (hd g ((hF g).2 (.inr (.inl rfl)))), h1, h2, h3, h4, hs.stable hI hu fun k hk => hd k ((hF k).2 (.inr (.inr hk))), h5, h6, h7, hF⟩
theorem BufW.stable {P : Program} {fuel : Nat} {s : Sink} {b : Nat} {w w' : World} {F G : Nat → Prop} {l : List UInt8} (hs : s.Law P fuel) (h : BufW s b w F l) (hu : Upd G w w') (hd : ∀ k, F k → ¬ G k) : BufW s b w' F l := by
  obtain ⟨i, p, hp, e⟩ := h
  exact ⟨i, p, hp.stable hs hu hd, e⟩
theorem BufW.lt {P : Program} {fuel : Nat} {s : Sink} {b : Nat} {w : World} {F : Nat → Prop} {l : List UInt8} (hs : s.Law P fuel) (h : BufW s b w F l) : ∀ k, F k → k < w.heap.size := by
  obtain ⟨i, p, hp, e⟩ := h
  exact hp.lt hs

end Go.Proofs.YtmdkpihlhdjjaaaGreatFmt

namespace Go.Proofs.YtmdkpihlhdjjaaaGreatFmt
open Go.RowKit

/-- A row of bytes in which d has been laid from place off on. -/
def laid (cur : Array Value) (off : Nat) (d : List UInt8) : Array Value := (cur.toList.take off ++ bv d ++ cur.toList.drop (off + d.length)).toArray
theorem laid_nil (cur : Array Value) (off : Nat) : laid cur off [] = cur := by simp [laid]
theorem laid_size {cur : Array Value} {off : Nat} {d : List UInt8} (h : off + d.length ≤ cur.size) : (laid cur off d).size = cur.size := by
  simp [laid]; omega
theorem laid_take {cur : Array Value} {l d : List UInt8} (ht : cur.toList.take l.length = bv l) :
    (laid cur l.length d).toList.take (l ++ d).length = bv (l ++ d) := by
  simp only [laid, ht, List.length_append]
  rw [← bv_append]
  have : l.length + d.length = (bv (l ++ d)).length := by simp
  rw [this, List.take_left]

section
variable {P : Program} (w : World) (dT sT ty elem : TypeId) (hu : P.underlying dT = some (.slice elem)) (hs : (P.info? elem).map (·.size) = some 1)
include hu hs
theorem run_copy_rd {F : Nat → Prop} {v : Value} {d : List UInt8} (hv : SliceRd w F v d) {g off dCap : Nat} {dp : Option Addr} {cur : Array Value} {t : TypeId} (hg : w.heap[g]? = some (.cells cur t (0, 0)))
    (hd : d ≠ [] → dp = some ⟨g, off, none⟩) (hfit : off + d.length ≤ cur.size) :
    (Builtin.copy_ #[dT, sT] ty #[.slice dp d.length dCap, v]).run P w = .ok (goInt d.length) (w.setRow g (laid cur off d)) := by
  by_cases h0 : d = []
  · subst h0
    rw [laid_nil, setRow_self w g cur t (0, 0) hg]
    rcases hv with ⟨rfl, _⟩ | ⟨a, c, rfl, _⟩
    · exact run_copy_none w dT sT ty elem dp none 0 dCap 0 0 hu hs rfl
    · exact run_copy_none w dT sT ty elem dp (some a) 0 dCap 0 c hu hs rfl
  · obtain rfl := hd h0
    rcases hv with ⟨_, h1⟩ | ⟨a, c, rfl, _, hr⟩
    · exact absurd h1 h0
    · have h := run_copy_row (P := P) w dT sT ty elem g off d.length dCap a d.length c cur t (bv d) hu hs hg (by simp) hr (by simpa using hfit) (bv_oneCell d)
      simpa [laid] using h
theorem run_copy_str {s : ByteArray} {g off dLen dCap : Nat} {dp : Option Addr} {cur : Array Value} {t : TypeId} (hg : w.heap[g]? = some (.cells cur t (0, 0)))
    (hd : 0 < s.size → 0 < dLen → dp = some ⟨g, off, none⟩) (hfit : off + min s.size dLen ≤ cur.size) :
    (Builtin.copy_ #[dT, sT] ty #[.slice dp dLen dCap, .string s]).run P w = .ok (goInt (min s.size dLen : Nat)) (w.setRow g (laid cur off (s.data.toList.take dLen))) := by
  have hsz : s.size = s.data.toList.length := rfl
  have hlen : (s.data.toList.take dLen).length = min s.size dLen := by rw [List.length_take, hsz]; omega
  have hmin : Nat.min s.size dLen = min s.size dLen := rfl
  have htk : List.take (min s.size dLen) (List.map (fun b : UInt8 => Value.int .u8 (b.toNat : Int)) s.data.toList) = bv (s.data.toList.take dLen) := by
    rw [bv_take]
    apply List.take_eq_take_iff.2
    rw [List.length_map, hsz]
    omega
  cases hq : P.info? elem with
  | none => simp [hq] at hs
  | some i =>
    by_cases h0 : min s.size dLen = 0
    · have hnil : s.data.toList.take dLen = [] := List.eq_nil_of_length_eq_zero (by omega)
      rw [hnil, laid_nil, setRow_self w g cur t (0, 0) hg, h0]
      cases dp <;> simp [Builtin.copy_, run_underlying hu, Builtin.lenOf, Builtin.firstCells, sizeOf, typeInfo, hq, hmin, h0, storeCells]
    · obtain rfl := hd (by omega) (by omega)
      have hst := run_storeCells_at P g off t (bv (s.data.toList.take dLen)) 0 cur w hg (by rw [bv_length, hlen]; omega) (bv_oneCell _)
      simp only [Nat.add_zero, bv_length] at hst
      simp [Builtin.copy_, run_underlying hu, Builtin.lenOf, Builtin.firstCells, sizeOf, typeInfo, hq, hmin]
      rw [htk, hst]
      simp [laid, Result.andThen]
end
end Go.Proofs.YtmdkpihlhdjjaaaGreatFmt

namespace Go.Proofs.YtmdkpihlhdjjaaaGreatFmt
open Go.RowKit

theorem ownsRow_mono {w : World} {B : Nat} {e : TypeId} {size : Nat} {v : Value} {n : Nat} {xs : List Value} (h : w.ownsRow B e size v n xs) : w.ownsRow 0 e size v n xs := by
  refine ⟨h.1, ?_⟩
  rcases h.2 with h | ⟨g, cap, cur, h1, _, h2⟩
  · exact .inl h
  · exact .inr ⟨g, cap, cur, h1, Nat.zero_le _, h2⟩

theorem append_own {P : Program} (w : World) (t ty e : TypeId) (i : TypeInfo) (z : Value) (size bytes : Nat) (ht : P.underlying t = some (.slice e)) (hi : P.info? e = some i) (hz : i.zero = some z)
    (hsize : i.size = size) (hby : i.bytes = bytes) (hzs : z.cells.size = size) (hsz : 0 < size) {v : Value} {n : Nat} {xs : List Value} (h : w.ownsRow 0 e size v n xs)
    (a : Addr) (m c : Nat) (news : List Value) (hl : news.length = m * size) (hnews : ∀ j u, news[j]? = some u → w.cell? (a.add j) = some u) (h1 : ∀ u ∈ news, u.oneCell' = true)
    (h63 : n + m ≤ maxLen) (hbytes : (n + m) * bytes ≤ 140737488355328) :
    ∃ v' w', (Builtin.append_ #[t, t] ty #[v, .slice (some a) m c]).run P w = .ok v' w' ∧ w'.ownsRow 0 e size v' (n + m) (xs ++ news) ∧ w.grownBy w' v.ownBlock ∧ (∀ k, v'.ownBlock = some k → v.ownBlock = some k ∨ w.heap.size ≤ k) := by
  have hm : maxLen = 9223372036854775807 := rfl
  rcases h.2 with ⟨rfl, h0⟩ | ⟨g, cap, cur, rfl, _, hg, hnc, hcm, hcs, htk⟩
  · subst h0
    have hx : xs = [] := List.length_eq_zero_iff.1 (by simpa using h.1)
    subst hx
    obtain ⟨v', w', hr, ho, hgr, _⟩ := run_append_own (P := P) w w.heap.size t ty e i z size bytes ht hi hz hsize hby hzs hsz (.slice none 0 0) 0 [] (World.ownsRow_nil _ _ _ _) a m c news hl hnews h1 h63 hbytes (Nat.le_refl _)
    exact ⟨v', w', hr, ownsRow_mono ho, hgr, fun k hk => .inr (ho.lt k hk).1⟩
  · by_cases hroom : n + m ≤ cap
    · obtain ⟨w', hr, ho, hgr⟩ := run_append_fits (P := P) w 0 t ty e i size ht hi hsize g n cap xs h a m c news hl hnews h1 hroom
      exact ⟨_, w', hr, ho, hgr, fun k hk => .inl hk⟩
    · obtain ⟨v', w', hr, ho, hgr, _⟩ := run_append_own (P := P) w 0 t ty e i z size bytes ht hi hz hsize hby hzs hsz _ _ _ h a m c news hl hnews h1 h63 hbytes (Nat.zero_le _)
      have hgr2 : ∃ n' c2 w2, (Builtin.append_ #[t, t] ty #[.slice (some ⟨g, 0, none⟩) n cap, .slice (some a) m c]).run P w = .ok (.slice (some ⟨w.heap.size, 0, none⟩) n' c2) w2 := by
        refine ⟨_, _, _, run_append_grow (P := P) w t ty e i z ht hi hz ⟨g, 0, none⟩ n cap xs (by rw [hsize]; exact h.1) (fun j u hj => h.cells rfl j u hj) a m c news (by rw [hsize]; exact hl) hnews (by omega) (by omega) ?_⟩
        rw [hby]
        exact growslice_fits (by omega) hbytes
      obtain ⟨n', c2, w2, hr2⟩ := hgr2
      have he := hr.symm.trans hr2
      simp only [Result.ok.injEq] at he
      obtain ⟨rfl, rfl⟩ := he
      refine ⟨_, _, hr, ho, hgr, fun k hk => .inr ?_⟩
      simp only [Value.ownBlock, Option.some.injEq] at hk
      omega
end Go.Proofs.YtmdkpihlhdjjaaaGreatFmt

namespace Go.Proofs.YtmdkpihlhdjjaaaGreatFmt
open Go.RowKit

/-- A copy whose run is known, at the operation. -/
theorem wpList_copy_run {P : Program} {w w' : World} {ops : Array Oper} {rest : List Oper} {o : Oper} {a : Act} {Q : Exit → Act → World → Prop} (hgd : o.guard = none) (s x : Operand) (ts : Array TypeId)
    (ho : o.op = .call { callee := .builtin .copy, args := #[s, x], argTypes := ts }) {u v v' : Value} (hs : a.eval s = u) (hx : a.eval x = v)
    (hr : (Builtin.copy_ ts o.type #[u, v]).run P w = .ok v' w') (h : wpList P ops Q rest (a.put o.dst v') w') : wpList P ops Q (o :: rest) a w := by
  refine wpList_plain hgd fun _ hK => ?_
  unfold Oper.wp execOp
  simp only [ho, resolve, invoke, builtin, Sem.run_bind, Sem.run_pure, Result.andThen_ok, List.map_toArray, List.map_cons, List.map_nil, hs, hx, hr]
  exact hK _ _ h

/-- An append whose run is known, at a step of a region that draws its order. -/
theorem step_append_run {P : Program} {w w' : World} {ops : Array Oper} {o : Oper} {a : Act} {K : Act → World → Prop} {Q : Exit → Act → World → Prop} {E : Prop} (hgd : o.guard = none) (s x : Operand) (ts : Array TypeId)
    (ho : o.op = .call { callee := .builtin .append, args := #[s, x], argTypes := ts }) {u v v' : Value} (hs : a.eval s = u) (hx : a.eval x = v)
    (hr : (Builtin.append_ ts o.type #[u, v]).run P w = .ok v' w') (h : K (a.put o.dst v') w') : if Region.wanted o (yielded ops a.tmps) = true then Oper.wp P o a w K Q else E := by
  have hw : Region.wanted o (yielded ops a.tmps) = true := by simp [Region.wanted, hgd]
  rw [if_pos hw]
  unfold Oper.wp execOp
  simp only [ho, resolve, invoke, builtin, Sem.run_bind, Sem.run_pure, Result.andThen_ok, List.map_toArray, List.map_cons, List.map_nil, hs, hx, hr]
  exact h

end Go.Proofs.YtmdkpihlhdjjaaaGreatFmt

namespace Go.Proofs.YtmdkpihlhdjjaaaGreatFmt
open Go.RowKit

theorem asrt_same {P : Program} {t e : TypeId} (h : P.underlying t = some (.pointer e)) (xT : TypeId) (v : Value) (w : World) :
    (Instr.typeAssert (.iface t v) xT t true).run P w = .ok (.tuple #[v, .bool true]) w := by
  simp [Instr.typeAssert, run_underlying h]
theorem asrt_other {P : Program} {t tt e : TypeId} (h : P.underlying tt = some (.pointer e)) (hz : (P.info? tt).map (·.zero) = some (some (.pointer none))) (hne : (t == tt) = false) (xT : TypeId) (v : Value) (w : World) :
    (Instr.typeAssert (.iface t v) xT tt true).run P w = .ok (.tuple #[.pointer none, .bool false]) w := by
  obtain ⟨i, hi, hz'⟩ := Option.map_eq_some_iff.1 hz
  have hne' : ¬ t = tt := by simpa using hne
  simp [Instr.typeAssert, run_underlying h, hne', zeroValue, typeInfo, hi, hz']

/-- What a call leaves, behind a variable: the walk does not open it. -/
theorem callsVar {P : Program} {f : FuncId} {args : Array Value} {w : World} {Q : Ending → World → Prop} (h : Calls P f args w Q) : ∃ Q', RowKit.Hid (∀ e w', Q' e w' → Q e w') ∧ RowKit.Hid (Calls P f args w Q') := ⟨Q, fun _ _ h => h, h⟩

end Go.Proofs.YtmdkpihlhdjjaaaGreatFmt

namespace Go.Proofs.YtmdkpihlhdjjaaaGreatFmt
open Go.RowKit

theorem addr_block (a : Addr) (j : Nat) : (a.add j).block = a.block := by unfold Addr.add; split <;> rfl

def StrsRd (w : World) (v : Value) (L : List ByteArray) : Prop :=
  (v = .slice none 0 0 ∧ L = []) ∨ ∃ (a : Addr) (c : Nat), v = .slice (some a) L.length c ∧ L.length ≤ c ∧ ∀ (j : Nat) (b : ByteArray), L[j]? = some b → w.cell? (a.add j) = some (.string b)
theorem StrsRd.quiet {w w' : World} {v : Value} {L : List ByteArray} (h : StrsRd w v L) (hu : Upd (fun _ => False) w w') : StrsRd w' v L := by
  rcases h with h | ⟨a, c, h1, h2, h3⟩
  · exact .inl h
  · exact .inr ⟨a, c, h1, h2, fun j b hj => hu.cell (h3 j b hj) fun h => h⟩

def UintsRd (w : World) (v : Value) (L : List Nat) : Prop :=
  (v = .slice none 0 0 ∧ L = []) ∨ ∃ (a : Addr) (c : Nat), v = .slice (some a) L.length c ∧ L.length ≤ c ∧ ∀ (j : Nat) (b : Nat), L[j]? = some b → w.cell? (a.add j) = some (.int .u64 (b : Int))
theorem UintsRd.quiet {w w' : World} {v : Value} {L : List Nat} (h : UintsRd w v L) (hu : Upd (fun _ => False) w w') : UintsRd w' v L := by
  rcases h with h | ⟨a, c, h1, h2, h3⟩
  · exact .inl h
  · exact .inr ⟨a, c, h1, h2, fun j b hj => hu.cell (h3 j b hj) fun h => h⟩

/-- A readable slice of small numbers. -/
def KsRd (w : World) (v : Value) (ks : List Nat) : Prop :=
  (v = .slice none 0 0 ∧ ks = []) ∨ ∃ (a : Addr) (c : Nat), v = .slice (some a) ks.length c ∧ ks.length ≤ c ∧ ∀ (j : Nat) (k : Nat), ks[j]? = some k → w.cell? (a.add j) = some (.int .u8 (k : Int))
end Go.Proofs.YtmdkpihlhdjjaaaGreatFmt

namespace Go.Proofs.YtmdkpihlhdjjaaaGreatFmt
open Go.RowKit

/-- An append whose run is known, at the operation. -/
theorem wpList_append_run {P : Program} {w w' : World} {ops : Array Oper} {rest : List Oper} {o : Oper} {a : Act} {Q : Exit → Act → World → Prop} (hgd : o.guard = none) (s x : Operand) (ts : Array TypeId)
    (ho : o.op = .call { callee := .builtin .append, args := #[s, x], argTypes := ts }) {u v v' : Value} (hs : a.eval s = u) (hx : a.eval x = v)
    (hr : (Builtin.append_ ts o.type #[u, v]).run P w = .ok v' w') (h : wpList P ops Q rest (a.put o.dst v') w') : wpList P ops Q (o :: rest) a w := by
  refine wpList_plain hgd fun _ hK => ?_
  unfold Oper.wp execOp
  simp only [ho, resolve, invoke, builtin, Sem.run_bind, Sem.run_pure, Result.andThen_ok, List.map_toArray, List.map_cons, List.map_nil, hs, hx, hr]
  exact hK _ _ h

/-- v is the nil slice, or the head of a row of bytes: it holds l. -/
def Row (w : World) (v : Value) (l : List UInt8) : Prop := w.ownsRow 0 5 1 v l.length (bv l)

theorem Row.mono {w : World} {B : Nat} {v : Value} {n : Nat} {xs : List Value} (h : w.ownsRow B 5 1 v n xs) : w.ownsRow 0 5 1 v n xs := by
  refine ⟨h.1, ?_⟩
  rcases h.2 with h | ⟨g, cap, cur, h1, _, h2⟩
  · exact .inl h
  · exact .inr ⟨g, cap, cur, h1, Nat.zero_le _, h2⟩

theorem Row.base {w : World} {B : Nat} {v : Value} {l : List UInt8} (h : Row w v l) (hB : ∀ k, v.ownBlock = some k → B ≤ k) : w.ownsRow B 5 1 v l.length (bv l) := by
  refine ⟨h.1, ?_⟩
  rcases h.2 with h | ⟨g, cap, cur, rfl, _, h2⟩
  · exact .inl h
  · exact .inr ⟨g, cap, cur, rfl, hB g rfl, h2⟩

theorem Row.form {w : World} {v : Value} {l : List UInt8} (h : Row w v l) : ∃ ao c, v = .slice ao l.length c := by
  rcases h.2 with ⟨rfl, h0⟩ | ⟨g, cap, cur, rfl, _⟩
  · exact ⟨none, 0, by rw [h0]⟩
  · exact ⟨_, _, rfl⟩

theorem Row.nil (w : World) : Row w (.slice none 0 0) [] := World.ownsRow_nil _ _ _ _

theorem Row.stable {w w' : World} {F : Nat → Prop} {v : Value} {l : List UInt8} (h : Row w v l) (hu : Upd F w w') (hn : ∀ k, v.ownBlock = some k → ¬ F k) : Row w' v l := by
  refine ⟨h.1, ?_⟩
  rcases h.2 with h | ⟨g, cap, cur, rfl, h1, h2, h3⟩
  · exact .inl h
  · exact .inr ⟨g, cap, cur, rfl, h1, hu.heap h2 (hn g rfl), h3⟩

theorem SliceRd.stable {w w' : World} {F G : Nat → Prop} {v : Value} {l : List UInt8} (h : SliceRd w F v l) (hu : Upd G w w') (hg : ∀ k, G k → F k) : SliceRd w' F v l := by
  rcases h with h | ⟨a, c, rfl, h1, h2⟩
  · exact .inl h
  · refine .inr ⟨a, c, rfl, h1, fun j u hj => ?_⟩
    have hne : l ≠ [] := by rintro rfl; simp at hj
    refine hu.cell (h2 j u hj) fun hf => (h1 hne).1 ?_
    have hb : (a.add j).block = a.block := by unfold Addr.add; split <;> rfl
    rw [← hb]
    exact hg _ hf

set_option maxRecDepth 100000 in
theorem append_row {w : World} {v x : Value} {l d : List UInt8} {F : Nat → Prop} (h : Row w v l) (hx : SliceRd w F x d) (hlim : l.length + d.length ≤ LIM) :
    ∃ v' w', (Builtin.append_ #[31, 31] 31 #[v, x]).run Tryz.prog w = .ok v' w' ∧ Row w' v' (l ++ d) ∧ w.grownBy w' v.ownBlock ∧ (∀ k, v'.ownBlock = some k → v.ownBlock = some k ∨ w.heap.size ≤ k) := by
  have ht : Tryz.prog.underlying 31 = some (.slice 5) := Tryz.underlying31
  obtain ⟨i, hi, hz, hsz, hby⟩ : ∃ i, Tryz.prog.info? 5 = some i ∧ i.zero = some (.int .u8 0) ∧ i.size = 1 ∧ i.bytes = 1 := ⟨_, rfl, rfl, rfl, rfl⟩
  rcases hx with ⟨rfl, rfl⟩ | ⟨a, c, rfl, _, hrd⟩
  · refine ⟨v, w, run_append_owned_none (P := Tryz.prog) w 0 31 31 5 i 1 ht hi v _ _ h, by rw [List.append_nil]; exact h, .refl _ _, fun k hk => .inl hk⟩
  have hlen : (bv d).length = d.length * 1 := by simp
  have hm : maxLen = 9223372036854775807 := rfl
  have hl : LIM = 1099511627776 := rfl
  rcases h.2 with ⟨rfl, h0⟩ | ⟨g, cap, cur, rfl, _, hg, hnc, hcm, hcs, htk⟩
  · have hle : l = [] := List.length_eq_zero_iff.1 h0
    subst hle
    obtain ⟨v', w', hr, ho, hgr, _⟩ := run_append_own (P := Tryz.prog) w w.heap.size 31 31 5 i (.int .u8 0) 1 1 ht hi hz hsz hby rfl (by decide) (.slice none 0 0) 0 [] (World.ownsRow_nil _ _ _ _) a d.length c (bv d) hlen hrd (bv_oneCell d)
      (by simp only [List.length_nil] at hlim; omega) (by simp only [List.length_nil] at hlim; omega) (Nat.le_refl _)
    refine ⟨v', w', hr, ?_, hgr, fun k hk => .inr (ho.lt k hk).1⟩
    have := Row.mono ho
    simpa [Row] using this
  · by_cases hroom : l.length + d.length ≤ cap
    · obtain ⟨w', hr, ho, hgr⟩ := run_append_fits (P := Tryz.prog) w 0 31 31 5 i 1 ht hi hsz g l.length cap (bv l) h a d.length c (bv d) hlen hrd (bv_oneCell d) hroom
      refine ⟨_, w', hr, ?_, hgr, fun k hk => .inl hk⟩
      unfold Row
      rw [List.length_append, bv_append]
      exact ho
    · obtain ⟨v', w', hr, ho, hgr, _⟩ := run_append_own (P := Tryz.prog) w 0 31 31 5 i (.int .u8 0) 1 1 ht hi hz hsz hby rfl (by decide) _ _ _ h a d.length c (bv d) hlen hrd (bv_oneCell d)
        (by omega) (by omega) (Nat.zero_le _)
      have hgr2 : ∃ n c2 w2, (Builtin.append_ #[31, 31] 31 #[.slice (some ⟨g, 0, none⟩) l.length cap, .slice (some a) d.length c]).run Tryz.prog w = .ok (.slice (some ⟨w.heap.size, 0, none⟩) n c2) w2 := by
        refine ⟨_, _, _, run_append_grow (P := Tryz.prog) w 31 31 5 i (.int .u8 0) ht hi hz ⟨g, 0, none⟩ l.length cap (bv l) (by rw [hsz]; simp) (fun j u hj => h.cells rfl j u hj) a d.length c (bv d) (by rw [hsz]; simp) hrd (by omega) (by omega) ?_⟩
        rw [hby]
        exact growslice_fits (by omega) (by omega)
      obtain ⟨n, c2, w2, hr2⟩ := hgr2
      have he := hr.symm.trans hr2
      simp only [Result.ok.injEq] at he
      obtain ⟨rfl, rfl⟩ := he
      refine ⟨_, _, hr, ?_, hgr, fun k hk => .inr ?_⟩
      · unfold Row
        rw [List.length_append, bv_append]
        exact ho
      · simp only [Value.ownBlock, Option.some.injEq] at hk
        omega

end Go.Proofs.YtmdkpihlhdjjaaaGreatFmt

namespace Go.Proofs.YtmdkpihlhdjjaaaGreatFmt
open Go.RowKit

theorem str_of_row {w : World} {v : Value} {l : List UInt8} (h : Row w v l) : (convert 31 9 v).run Tryz.prog w = .ok (.string ⟨l.toArray⟩) w := by
  rcases h.2 with ⟨rfl, h0⟩ | ⟨g, cap, cur, rfl, _, hg, _, _, _, htk⟩
  · obtain rfl := List.length_eq_zero_iff.1 h0
    rw [run_convert_bytes_string w 31 9 5 none 0 0 Tryz.underlying31 Tryz.underlying5 Tryz.underlying9]
    rfl
  · refine run_convert_bytes_back w 31 9 5 ⟨g, 0, none⟩ cap l Tryz.underlying31 Tryz.underlying5 Tryz.underlying9 (fun j hj => ?_)
    exact h.cells rfl j _ (by rw [bv_getElem?, List.getElem?_eq_getElem hj]; rfl)

end Go.Proofs.YtmdkpihlhdjjaaaGreatFmt

namespace Go.Proofs.YtmdkpihlhdjjaaaGreatFmt
open Go.RowKit

/-- A position as the program holds it. -/
abbrev posV (o lc : Nat) : Value := .agg #[.int .u32 (o : Int), .int .u32 (lc : Int)]

set_option maxRecDepth 100000 in
theorem pos_line (o lc : Nat) (h : lc < 4294967296) (w : World) : Calls Tryz.prog 41 #[posV o lc] w fun e w' => e = .returned (.int .u64 ((lc / 16384 : Nat) : Int)) ∧ Upd (fun _ => False) w w' := by
  have hsh : IntKind.u32.wrap ((lc : Int) >>> 14) = ((lc / 16384 : Nat) : Int) := by
    rw [Int.shiftRight_eq_div_pow, IntKind.wrap_u32]; omega
  have hsh2 : IntKind.u64.wrap ((lc : Int) / 16384) = ((lc / 16384 : Nat) : Int) := by
    rw [IntKind.wrap_u64]; omega
  clear h
  go_enter Tryz.func41, Tryz.ntmps41
  go_wp2
  go_ret
  exact ⟨congrArg Ending.returned (congrArg (Value.int .u64) (by omega)), (Upd.refl _ w).alloc _⟩

/-- A literal lies at block lb. -/
def LitAt (lb : Nat) (w : World) (o1 l1 o2 l2 : Nat) (v : ByteArray) : Prop :=
  w.heap[lb]? = some (.cells #[.int .u32 (o1 : Int), .int .u32 (l1 : Int), .int .u32 (o2 : Int), .int .u32 (l2 : Int), .string v] 188 (0, 0))

set_option maxRecDepth 100000 in
theorem lit_pos {lb : Nat} {w : World} {o1 l1 o2 l2 : Nat} {v : ByteArray} (h : LitAt lb w o1 l1 o2 l2 v) : Calls Tryz.prog 115 #[.pointer (some ⟨lb, 0, none⟩)] w fun e w' => e = .returned (posV o1 l1) ∧ Upd (fun _ => False) w w' := by
  have c0 : w.cell? ⟨lb, 0, none⟩ = some (.int .u32 (o1 : Int)) := cell_at h 0
  have c1 : w.cell? ⟨lb, 1, none⟩ = some (.int .u32 (l1 : Int)) := cell_at h 1
  have hlt : lb < w.heap.size := heap_lt h
  clear h
  go_enter Tryz.func115, Tryz.ntmps115
  go_wp2
  refine bodyPost_ret (results_cell_row rfl _ _ w.heap.size _ _ (0, 0) _ rfl (heap_alloc_new w _) Tryz.underlying40 rfl (by kernel_rfl)) rfl ?_
  exact ⟨rfl, (Upd.refl _ w).alloc _⟩

set_option maxRecDepth 100000 in
theorem lit_end {lb : Nat} {w : World} {o1 l1 o2 l2 : Nat} {v : ByteArray} (h : LitAt lb w o1 l1 o2 l2 v) : Calls Tryz.prog 255 #[.pointer (some ⟨lb, 0, none⟩)] w fun e w' => e = .returned (posV o2 l2) ∧ Upd (fun _ => False) w w' := by
  have c0 : w.cell? ⟨lb, 2, none⟩ = some (.int .u32 (o2 : Int)) := cell_at h 2
  have c1 : w.cell? ⟨lb, 3, none⟩ = some (.int .u32 (l2 : Int)) := cell_at h 3
  have hlt : lb < w.heap.size := heap_lt h
  clear h
  go_enter Tryz.func255, Tryz.ntmps255
  go_wp2
  refine bodyPost_ret (results_cell_row rfl _ _ w.heap.size _ _ (0, 0) _ rfl (heap_alloc_new w _) Tryz.underlying40 rfl (by kernel_rfl)) rfl ?_
  exact ⟨rfl, (Upd.refl _ w).alloc _⟩

set_option maxRecDepth 100000 in
set_option maxHeartbeats 1000000 in
/-- One byte that the text does not hold is not found. -/
theorem zz_index_no (s : ByteArray) (c : UInt8) (h : ∀ x ∈ s.data.toList, x ≠ c) (hs : s.size ≤ 1099511627776) (w : World) :
    Calls Tryz.prog 168 #[.string s, .string ⟨#[c]⟩] w fun e w' => e = .returned (.int .i64 (-1)) ∧ w' = w := by
  have hsz : (s.size : Int) ≤ 1099511627776 := by omega
  have hone : (ByteArray.mk #[c]).size = 1 := rfl
  have hne : ∀ i, i < s.size → ((s.extract i (i + 1)).toList == [c]) = false := fun i hi => by
    rw [beq_eq_false_iff_ne]
    intro he
    have h1 : (s.extract i (i + 1)).data.toList = [c] := by rw [← he, ByteArray.toList_eq]
    simp only [ByteArray.data_extract, Array.toList_extract, List.extract_eq_take_drop] at h1
    have h2 : s.data.toList[i]'hi ∈ s.data.toList := List.getElem_mem _
    refine h _ h2 ?_
    have h3 : (List.take (i + 1 - i) (List.drop i s.data.toList))[0]? = some (s.data.toList[i]'hi) := by
      rw [List.getElem?_take_of_lt (by omega), List.getElem?_drop]
      simp
    rw [h1] at h3
    simpa using h3.symm
  have HNe := Lib.hid hne
  clear h hne
  go_enter Tryz.func168, Tryz.ntmps168
  go_wp2_with fail
  go_loopg [5] (s.size) (fun k v5 wr => ∃ i : Nat, v5 = .int .i64 (i : Int) ∧ i + k = s.size ∧ wr = w)
  case atStart => exact ⟨0, rfl, by omega, rfl⟩
  case round =>
    obtain ⟨i, rfl, hik, rfl⟩ := hrel
    have HIK := Lib.hid hik
    clear hik
    by_cases hlt : (i : Int) + 1 ≤ (s.size : Int)
    · have hne := HNe.out i (by omega)
      go_wp2
      go_roundg (gk - 1)
      case measure => have := HIK.out; omega
      case rel => exact ⟨i + 1, by go_num, by have := HIK.out; omega, rfl⟩
    · have hiI : (i : Int) ≤ (s.size : Int) := by have := HIK.out; omega
      go_wp2
      go_ret
      exact ⟨rfl, rfl⟩
end Go.Proofs.YtmdkpihlhdjjaaaGreatFmt

namespace Go.Proofs.YtmdkpihlhdjjaaaGreatFmt
open Go.RowKit

/-- The line that a position holds, and how it holds it. -/
def clampL (line : Nat) : Nat := if 262143 < line then 0 else line
def lcP (line : Nat) : Nat := clampL line * 16384 + 1
theorem clampL_le (line : Nat) : clampL line ≤ 262143 := by unfold clampL; split <;> omega
theorem lcP_lt (line : Nat) : lcP line < 4294967296 := by have := clampL_le line; unfold lcP; omega
theorem lcP_line (line : Nat) : lcP line / 16384 = clampL line := by unfold lcP; omega

set_option maxRecDepth 100000 in
set_option maxHeartbeats 1000000 in
theorem new_pos (o line : Nat) (ho : o ≤ 4294967284) (w : World) : Calls Tryz.prog 124 #[.int .u64 (o : Int), .int .u64 (line : Int), .int .u64 1] w fun e w' => e = .returned (posV o (lcP line)) ∧ Upd (fun _ => False) w w' := by
  have hmin : min (o : Int) 4294967284 = (o : Int) := by omega
  have hwo : IntKind.u32.wrap (o : Int) = (o : Int) := by rw [IntKind.wrap_u32]; omega
  by_cases hl : 262143 < line
  · have hlI : (262143 : Int) < (line : Int) := by omega
    have e : lcP line = 1 := by simp [lcP, clampL, hl]
    rw [e]
    have hb : bits .or .u32 0 1 = 1 := by kernel_rfl
    clear hl e
    go_enter Tryz.func124, Tryz.ntmps124
    go_wp2
    refine bodyPost_ret (results_cell_row rfl _ _ w.heap.size _ _ (0, 0) _ rfl (heap_alloc_new w _) Tryz.underlying40 rfl (by kernel_rfl)) rfl ?_
    exact ⟨rfl, (Upd.refl _ w).alloc _⟩
  · have hlI : ¬ (262143 : Int) < (line : Int) := by omega
    have e : lcP line = line * 16384 + 1 := by simp [lcP, clampL, hl]
    rw [e]
    have hwl : IntKind.u32.wrap (line : Int) = (line : Int) := by rw [IntKind.wrap_u32]; omega
    have hb : bits .or .u32 ((line : Int) * 16384) 1 = ((line * 16384 + 1 : Nat) : Int) := by
      have h1 := u32_or_nat (line * 16384) 1 (by omega) (by omega)
      rw [nat_join 14 (line * 16384) 1 (by omega) (by omega)] at h1
      rw [← h1]
      simp
    clear hl e
    go_enter Tryz.func124, Tryz.ntmps124
    go_wp2
    refine bodyPost_ret (results_cell_row rfl _ _ w.heap.size _ _ (0, 0) _ rfl (heap_alloc_new w _) Tryz.underlying40 rfl (by kernel_rfl)) rfl ?_
    exact ⟨by simp [posV], (Upd.refl _ w).alloc _⟩

end Go.Proofs.YtmdkpihlhdjjaaaGreatFmt

namespace Go.Proofs.YtmdkpihlhdjjaaaGreatFmt
open Go.RowKit

/-- v is the head of a row of bytes in a block that is no older than B: it holds l. -/
def RowB (B : Nat) (w : World) (v : Value) (l : List UInt8) : Prop := w.ownsRow B 5 1 v l.length (bv l) ∧ B ≤ w.heap.size

section
variable {B : Nat} {w w' : World} {v : Value} {l : List UInt8}

theorem RowB.row (h : RowB B w v l) : Row w v l := Row.mono h.1
theorem RowB.form (h : RowB B w v l) : ∃ ao c, v = .slice ao l.length c := h.row.form
theorem RowB.quiet (h : RowB B w v l) (hu : Upd (fun _ => False) w w') : RowB B w' v l := by
  obtain ⟨⟨h1, h2⟩, h3⟩ := h
  refine ⟨⟨h1, ?_⟩, Nat.le_trans h3 hu.size⟩
  rcases h2 with h | ⟨g, cap, cur, rfl, h4, h5, h6⟩
  · exact .inl h
  · exact .inr ⟨g, cap, cur, rfl, h4, hu.heap h5 (fun h => h), h6⟩
theorem RowB.nil (w : World) : RowB w.heap.size w (.slice none 0 0) [] := ⟨World.ownsRow_nil _ _ _ _, Nat.le_refl _⟩

theorem RowB.strict (hu : Upd (fun k => B ≤ k) w w') (hB : w.heap.size ≤ B) : Upd (fun _ => False) w w' := hu.strict fun _ hk => Nat.le_trans hB hk

theorem RowB.grown {v2 : Value} {n : Nat} {xs : List Value} (h : RowB B w v l) (hg : w.grownBy w' v.ownBlock) (_ : w'.ownsRow B 5 1 v2 n xs) : Upd (fun k => B ≤ k) w w' :=
  (Upd.refl _ w).grown hg fun k hk => .inl (h.1.lt k hk).1

set_option maxRecDepth 100000 in
/-- One byte more. -/
theorem RowB.push (h : RowB B w v l) (c : UInt8) {x : Int} (hx : x = (c.toNat : Int)) (hl : l.length + 1 ≤ LIM) :
    ∃ v' w', (Builtin.append_ #[31, 31] 31 #[v, .slice (some ⟨w.heap.size, 0, none⟩) 1 1]).run Tryz.prog (w.alloc (.cells #[.int .u8 x] 5)) = .ok v' w' ∧ RowB B w' v' (l ++ [c]) ∧ Upd (fun k => B ≤ k) w w' := by
  subst hx
  obtain ⟨i, hi, hz, hsz, hby⟩ : ∃ i, Tryz.prog.info? 5 = some i ∧ i.zero = some (.int .u8 0) ∧ i.size = 1 ∧ i.bytes = 1 := ⟨_, rfl, rfl, rfl, rfl⟩
  have hu : Upd (fun _ => False) w (w.alloc (.cells #[.int .u8 (c.toNat : Int)] 5)) := (Upd.refl _ w).alloc _
  have h1 := h.quiet hu
  have hm : maxLen = 9223372036854775807 := rfl
  have hL : LIM = 1099511627776 := rfl
  obtain ⟨v', w', hr, ho, hg, _⟩ := run_append_own (P := Tryz.prog) (w.alloc (.cells #[.int .u8 (c.toNat : Int)] 5)) B 31 31 5 i (.int .u8 0) 1 1 Tryz.underlying31 hi hz hsz hby rfl (by decide) v l.length (bv l) h1.1 ⟨w.heap.size, 0, none⟩ 1 1 (bv [c]) rfl
    (fun j u hj => by
      rcases j with _ | j
      · simp only [bv, List.map_cons, List.map_nil, List.getElem?_cons_zero, Option.some.injEq] at hj
        subst hj
        exact cell_at (heap_alloc_new w _) 0
      · simp [bv] at hj) (bv_oneCell _) (by omega) (by omega) h1.2
  have ho2 : w'.ownsRow B 5 1 v' (l ++ [c]).length (bv (l ++ [c])) := by
    rw [List.length_append, bv_append]
    exact ho
  exact ⟨v', w', hr, ⟨ho2, Nat.le_trans h1.2 hg.size⟩, (hu.mono fun _ h => h.elim).trans (h1.grown hg ho)⟩

/-- .. the byte's box named as the walk names it. -/
theorem RowB.pushAt (h : RowB B w v l) (c : UInt8) {x : Int} (hx : x = (c.toNat : Int)) (hl : l.length + 1 ≤ LIM) {n : Nat} (hn : n = w.heap.size) :
    ∃ v' w', (Builtin.append_ #[31, 31] 31 #[v, .slice (some ⟨n, 0, none⟩) 1 1]).run Tryz.prog (w.alloc (.cells #[.int .u8 x] 5)) = .ok v' w' ∧ RowB B w' v' (l ++ [c]) ∧ Upd (fun k => B ≤ k) w w' := by
  subst hn
  exact h.push c hx hl

set_option maxRecDepth 100000 in
/-- A text more. -/
theorem RowB.str (h : RowB B w v l) (s : ByteArray) (hl : l.length + s.size ≤ LIM) :
    ∃ v' w', (Builtin.append_ #[31, 9] 31 #[v, .string s]).run Tryz.prog w = .ok v' w' ∧ RowB B w' v' (l ++ s.data.toList) ∧ Upd (fun k => B ≤ k) w w' := by
  obtain ⟨i, hi, hz, hsz, hby⟩ : ∃ i, Tryz.prog.info? 5 = some i ∧ i.zero = some (.int .u8 0) ∧ i.size = 1 ∧ i.bytes = 1 := ⟨_, rfl, rfl, rfl, rfl⟩
  have hm : maxLen = 9223372036854775807 := rfl
  have hL : LIM = 1099511627776 := rfl
  obtain ⟨v', w', hr, ho, hg, _⟩ := Lib.run_append_own_string (P := Tryz.prog) w B 31 9 31 5 i Tryz.underlying31 Tryz.underlying9 hi hz hsz hby v l.length (bv l) h.1 s (by omega) (by omega) h.2
  have ho2 : w'.ownsRow B 5 1 v' (l ++ s.data.toList).length (bv (l ++ s.data.toList)) := by
    rw [List.length_append, bv_append]
    exact ho
  exact ⟨v', w', hr, ⟨ho2, Nat.le_trans h.2 hg.size⟩, h.grown hg ho⟩

set_option maxRecDepth 100000 in
/-- Another row's bytes more. -/
theorem RowB.app (h : RowB B w v l) {x : Value} {d : List UInt8} (hx : Row w x d) (hl : l.length + d.length ≤ LIM) :
    ∃ v' w', (Builtin.append_ #[31, 31] 31 #[v, x]).run Tryz.prog w = .ok v' w' ∧ RowB B w' v' (l ++ d) ∧ Upd (fun k => B ≤ k) w w' := by
  obtain ⟨i, hi, hz, hsz, hby⟩ : ∃ i, Tryz.prog.info? 5 = some i ∧ i.zero = some (.int .u8 0) ∧ i.size = 1 ∧ i.bytes = 1 := ⟨_, rfl, rfl, rfl, rfl⟩
  have hm : maxLen = 9223372036854775807 := rfl
  have hL : LIM = 1099511627776 := rfl
  rcases hx.2 with ⟨rfl, h0⟩ | ⟨g, cap, cur, rfl, h1, h2, h3, h4, h5, h6⟩
  · have hd : d = [] := List.length_eq_zero_iff.1 h0
    subst hd
    rw [List.append_nil]
    exact ⟨v, w, run_append_owned_none (P := Tryz.prog) w B 31 31 5 i 1 Tryz.underlying31 hi v _ _ h.1, h, Upd.refl _ _⟩
  · obtain ⟨v', w', hr, ho, hg, _⟩ := run_append_own (P := Tryz.prog) w B 31 31 5 i (.int .u8 0) 1 1 Tryz.underlying31 hi hz hsz hby rfl (by decide) v l.length (bv l) h.1 ⟨g, 0, none⟩ d.length cap (bv d) (by simp)
      (fun j u hj => hx.cells rfl j u hj) (bv_oneCell _) (by omega) (by omega) h.2
    have ho2 : w'.ownsRow B 5 1 v' (l ++ d).length (bv (l ++ d)) := by
      rw [List.length_append, bv_append]
      exact ho
    exact ⟨v', w', hr, ⟨ho2, Nat.le_trans h.2 hg.size⟩, h.grown hg ho⟩

/-- A row that make has made, still empty. -/
theorem RowB.made {n : Nat} {cur : Array Value} (hc : cur.size = n) (hn : n ≤ maxLen) : RowB w.heap.size (w.alloc (.cells cur 5)) (.slice (some ⟨w.heap.size, 0, none⟩) 0 n) [] :=
  ⟨⟨by simp, .inr ⟨w.heap.size, n, cur, rfl, Nat.le_refl _, heap_alloc_new w _, Nat.zero_le _, hn, by simpa using hc, by simp⟩⟩, by simp⟩

set_option maxRecDepth 100000 in
theorem run_make_bytes (w : World) (n : Nat) (hn : n ≤ 1099511627776) : ∃ cur : Array Value, cur.size = n ∧ (Instr.makeSlice 31 (.int .i64 0) (.int .i64 (n : Int))).run Tryz.prog w = .ok (.slice (some ⟨w.heap.size, 0, none⟩) 0 n) (w.alloc (.cells cur 5)) := by
  obtain ⟨i, hi, hz, hsz, hby⟩ : ∃ i, Tryz.prog.info? 5 = some i ∧ i.zero = some (.int .u8 0) ∧ i.size = 1 ∧ i.bytes = 1 := ⟨_, rfl, rfl, rfl, rfl⟩
  have h := run_make (P := Tryz.prog) w 31 5 i _ Tryz.underlying31 hi hz .i64 .i64 0 (n : Int) (by omega) (by omega) (by rw [hby]; omega) (by omega)
  refine ⟨_, ?_, h⟩
  rw [hsz]
  simp [madeCells, Value.cells]

/-- An empty row is made: its head and its world with names of their own, so that no walk looks into them. -/
theorem row_make (w : World) (n : Nat) (hn : n ≤ 1099511627776) {x : Int} (hx : x = (n : Int)) : ∃ v0 w0, (Instr.makeSlice 31 (.int .i64 0) (.int .i64 x)).run Tryz.prog w = .ok v0 w0 ∧ RowB w.heap.size w0 v0 [] ∧ Upd (fun _ => False) w w0 := by
  subst hx
  obtain ⟨cur, hcs, hmk⟩ := run_make_bytes w n hn
  exact ⟨_, _, hmk, RowB.made hcs (by unfold maxLen; omega), (Upd.refl _ w).alloc _⟩
end
end Go.Proofs.YtmdkpihlhdjjaaaGreatFmt
