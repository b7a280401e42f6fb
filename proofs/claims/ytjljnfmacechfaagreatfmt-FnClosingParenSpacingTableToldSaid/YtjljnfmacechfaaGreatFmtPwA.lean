/-
  A Printer over a bufio.Writer to which a text has been written; what a call leaves of it; what is left behind Print.
-/
import Derived.Test.YtjljnfmacechfaaGreatFmtPeB
import Derived.Test.YtjljnfmacechfaaGreatFmtBufD
namespace Go.Proofs.YtjljnfmacechfaaGreatFmt
open Go.RowKit

/-- WriteString through the buffered writer over the sink S. -/
def Sink.WStr (P : Program) (S : Sink) : Prop :=
  ∀ {b : Nat} {w : World} {F : Nat → Prop} {l : List UInt8} (s : ByteArray), BufW S b w F l → (∀ c ∈ s.data.toList, S.okb c = true) → l.length + s.size ≤ LIM →
    Calls P 216 #[.pointer (some ⟨b, 0, none⟩), .string s] w fun e w' => e = .returned (.tuple #[.int .i64 (s.size : Int), .nilIface]) ∧ ∃ F', BufW S b w' F' (l ++ s.data.toList) ∧ (∀ k, F' k → F k ∨ w.heap.size ≤ k) ∧ Upd F w w'


/-- l has been written to the Printer's writer; the blocks of F are the writer's own. -/
structure PW (T : Sink) (pb b : Nat) (tv : Value) (w : World) (F : Nat → Prop) (l : List UInt8) (s : PS) : Prop where
  cell : PCell pb w (.iface 85 (.pointer (some ⟨b, 0, none⟩))) tv (.pointer none) s
  buf : BufW T b w F l
  np : ¬ F pb

/-- What a call leaves of it. -/
def PWr (T : Sink) (pb b : Nat) (tv : Value) (w : World) (F : Nat → Prop) (l : List UInt8) (s : PS) (w' : World) : Prop :=
  ∃ F', PW T pb b tv w' F' l s ∧ (∀ k, F' k → F k ∨ w.heap.size ≤ k) ∧ Upd (fun k => k = pb ∨ F k) w w'

section
variable {P : Program} {fuel : Nat} {T : Sink} {pb b : Nat} {tv : Value} {w : World} {F : Nat → Prop} {l : List UInt8} {s : PS}

theorem PW.lt_pb (h : PW T pb b tv w F l s) : pb < w.heap.size := heap_lt h.cell
theorem PW.lt (hs : T.Law P fuel) (h : PW T pb b tv w F l s) : ∀ k, F k → k < w.heap.size := h.buf.lt hs
theorem PW.stable {G : Nat → Prop} {w' : World} (hs : T.Law P fuel) (h : PW T pb b tv w F l s) (hu : Upd G w w') (hp : ¬ G pb) (hd : ∀ k, F k → ¬ G k) : PW T pb b tv w' F l s :=
  ⟨h.cell.keep hu hp, h.buf.stable hs hu hd, h.np⟩
theorem PW.quiet {w' : World} (hs : T.Law P fuel) (h : PW T pb b tv w F l s) (hu : Upd (fun _ => False) w w') : PWr T pb b tv w F l s w' :=
  ⟨F, h.stable hs hu (fun h => h) fun _ _ h => h, fun _ hk => .inl hk, hu.mono fun _ h => h.elim⟩
theorem PW.set {w' : World} {s' : PS} (hs : T.Law P fuel) (h : PW T pb b tv w F l s) (hu : Upd (fun k => k = pb) w w') (hc : PCell pb w' (.iface 85 (.pointer (some ⟨b, 0, none⟩))) tv (.pointer none) s') : PWr T pb b tv w F l s' w' :=
  ⟨F, ⟨hc, h.buf.stable hs hu fun _ hk e => h.np (e ▸ hk), h.np⟩, fun _ hk => .inl hk, hu.mono fun _ h => .inl h⟩
theorem PW.wrote {w' : World} {l' : List UInt8} {F' : Nat → Prop} (h : PW T pb b tv w F l s) (hb : BufW T b w' F' l') (hF : ∀ k, F' k → F k ∨ w.heap.size ≤ k) (hu : Upd F w w') : PWr T pb b tv w F l' s w' := by
  have hlt := h.lt_pb
  refine ⟨F', ⟨h.cell.keep hu h.np, hb, fun e => ?_⟩, hF, hu.mono fun _ h => .inr h⟩
  rcases hF pb e with h1 | h1
  · exact h.np h1
  · omega
theorem PWr.trans {w1 w2 : World} {F1 : Nat → Prop} {l2 : List UInt8} {s2 : PS} (hF : ∀ k, F1 k → F k ∨ w.heap.size ≤ k) (hu : Upd (fun k => k = pb ∨ F k) w w1) (h : PWr T pb b tv w1 F1 l2 s2 w2) : PWr T pb b tv w F l2 s2 w2 := by
  obtain ⟨F2, h1, h2, h3⟩ := h
  refine ⟨F2, h1, fun k hk => ?_, hu.trans' h3 fun k hk => ?_⟩
  · rcases h2 k hk with h | h
    · exact hF k h
    · exact .inr (Nat.le_trans hu.size h)
  · rcases hk with h | h
    · exact .inl (.inl h)
    · exact (hF k h).imp (fun h => .inr h) id
theorem PWr.start (hs : T.Law P fuel) (h : PW T pb b tv w F l s) : PWr T pb b tv w F l s w := h.quiet hs (Upd.refl _ w)
/-- A block that is none of theirs keeps. -/
theorem PWr.keep {w' : World} {l' : List UInt8} {s' : PS} {k : Nat} {x : Obj} (h : PWr T pb b tv w F l' s' w') (hx : w.heap[k]? = some x) (h1 : k ≠ pb) (h2 : ¬ F k) : w'.heap[k]? = some x := by
  obtain ⟨F', _, _, hu⟩ := h
  exact hu.heap hx fun e => e.elim h1 h2
end

end Go.Proofs.YtjljnfmacechfaaGreatFmt
