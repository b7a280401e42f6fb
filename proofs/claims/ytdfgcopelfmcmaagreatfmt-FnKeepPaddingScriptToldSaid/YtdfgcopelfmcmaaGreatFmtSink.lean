/-
  The abstract sink of a writer, and a bufio.Writer over a sink. No function of the program is named here but by its number.
-/
import Derived.Test.YtdfgcopelfmcmaaGreatFmtCore
namespace Go.Proofs.YtdfgcopelfmcmaaGreatFmt
open Go.RowKit

/-- No text in these laws is longer. -/
def LIM : Nat := 1099511627776

/-- A slice of bytes that can be read: its block is none of F's. -/
def SliceRd (w : World) (F : Nat → Prop) (v : Value) (l : List UInt8) : Prop :=
  (v = .slice none 0 0 ∧ l = []) ∨ ∃ (a : Addr) (c : Nat), v = .slice (some a) l.length c ∧ (l ≠ [] → ¬ F a.block ∧ l.length ≤ c) ∧ ∀ (j : Nat) (u : Value), (bv l)[j]? = some u → w.cell? (a.add j) = some u

/-- A sink: an interface value that bytes are written to. I w F l: in w it has been written l; the blocks of F are its own. -/
structure Sink where
  ty : TypeId
  ptr : Addr
  wf : FuncId
  okb : UInt8 → Bool
  I : World → (Nat → Prop) → List UInt8 → Prop

structure Sink.Law (P : Program) (fuel : Nat) (s : Sink) : Prop where
  meth : ∀ w, (method fuel s.ty (.pointer (some s.ptr)) "Write").run P w = .ok (s.wf, .pointer (some s.ptr)) w
  ahead : ∀ w, (nilAhead fuel s.ty (.pointer (some s.ptr)) "Write").run P w = .ok (some false) w
  enters : ∀ args w, (callFunc s.wf args).run P w = .ok (.enter s.wf args) w
  stable : ∀ {w w' F G l}, s.I w F l → Upd G w w' → (∀ k, F k → ¬ G k) → s.I w' F l
  lt : ∀ {w F l}, s.I w F l → ∀ k, F k → k < w.heap.size
  write : ∀ {w F l v d}, s.I w F l → SliceRd w F v d → (∀ c ∈ d, s.okb c = true) → l.length + d.length ≤ LIM →
    Calls P s.wf #[.pointer (some s.ptr), v] w fun e w' => e = .returned (.tuple #[.int .i64 (d.length : Int), .nilIface]) ∧ ∃ F', s.I w' F' (l ++ d) ∧ (∀ k, F' k → F k ∨ w.heap.size ≤ k) ∧ Upd F w w'

/-- A bufio.Writer at block b over the sink s: 'inner' has come to the sink, 'pend' is in the buffer. -/
def BufP (s : Sink) (b : Nat) (w : World) (F : Nat → Prop) (inner pend : List UInt8) : Prop :=
  ∃ (g : Nat) (cur : Array Value) (Fs : Nat → Prop),
    w.heap[b]? = some (.cells #[.nilIface, .slice (some ⟨g, 0, none⟩) 4096 4096, .int .i64 (pend.length : Int), .iface s.ty (.pointer (some s.ptr))] 262 (0, 0)) ∧
    w.heap[g]? = some (.cells cur 5 (0, 0)) ∧ cur.size = 4096 ∧ pend.length ≤ 4096 ∧ cur.toList.take pend.length = bv pend ∧ (∀ c ∈ pend, s.okb c = true) ∧
    s.I w Fs inner ∧ b ≠ g ∧ ¬ Fs b ∧ ¬ Fs g ∧ (∀ k, F k ↔ k = b ∨ k = g ∨ Fs k)

/-- All that has been written to it. -/
def BufW (s : Sink) (b : Nat) (w : World) (F : Nat → Prop) (l : List UInt8) : Prop := ∃ inner pend, BufP s b w F inner pend ∧ l = inner ++ pend

theorem BufP.lt {P : Program} {fuel : Nat} {s : Sink} {b : Nat} {w : World} {F : Nat → Prop} {inner pend : List UInt8} (hs : s.Law P fuel) (h : BufP s b w F inner pend) : ∀ k, F k → k < w.heap.size := by
  obtain ⟨g, cur, Fs, hb, hg, _, _, _, _, hI, _, _, _, hF⟩ := h
  intro k hk
  rcases (hF k).1 hk with rfl | rfl | hk
  · exact heap_lt hb
  · exact heap_lt hg
  · exact hs.lt hI k hk
theorem BufP.stable {P : Program} {fuel : Nat} {s : Sink} {b : Nat} {w w' : World} {F G : Nat → Prop} {inner pend : List UInt8} (hs : s.Law P fuel) (h : BufP s b w F inner pend) (hu : Upd G w w') (hd : ∀ k, F k → ¬ G k) : BufP s b w' F inner pend := by
  obtain ⟨g, cur, Fs, hb, hg, h1, h2, h3, h4, hI, h5, h6, h7, hF⟩ := h
  exact ⟨g, cur, Fs, hu.heap hb (hd b ((hF b).2 (.inl rfl))), hu.heap hg (hd g ((hF g).2 (.inr (.inl rfl)))), h1, h2, h3, h4, hs.stable hI hu fun k hk => hd k ((hF k).2 (.inr (.inr hk))), h5, h6, h7, hF⟩
theorem BufW.stable {P : Program} {fuel : Nat} {s : Sink} {b : Nat} {w w' : World} {F G : Nat → Prop} {l : List UInt8} (hs : s.Law P fuel) (h : BufW s b w F l) (hu : Upd G w w') (hd : ∀ k, F k → ¬ G k) : BufW s b w' F l := by
  obtain ⟨i, p, hp, e⟩ := h
  exact ⟨i, p, hp.stable hs hu hd, e⟩
theorem BufW.lt {P : Program} {fuel : Nat} {s : Sink} {b : Nat} {w : World} {F : Nat → Prop} {l : List UInt8} (hs : s.Law P fuel) (h : BufW s b w F l) : ∀ k, F k → k < w.heap.size := by
  obtain ⟨i, p, hp, e⟩ := h
  exact hp.lt hs

end Go.Proofs.YtdfgcopelfmcmaaGreatFmt
