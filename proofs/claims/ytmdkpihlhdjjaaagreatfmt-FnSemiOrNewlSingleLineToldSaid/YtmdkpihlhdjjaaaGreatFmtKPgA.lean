/-
  Print of a node: what is asked of the part that prints the node itself.
-/
import Derived.Test.YtmdkpihlhdjjaaaGreatFmtKPwAX
import Derived.Test.YtmdkpihlhdjjaaaGreatFmtKErrfX
namespace Go.Proofs.YtmdkpihlhdjjaaaGreatFmt
open Go.RowKit

/-- What the part of Print that prints the node itself must do: from an empty text to l. -/
def PgMid (S : Sink) (pb b tb : Nat) (O Fs : Nat → Prop) (w : World) (s : PS) (L : Nat) (f : FuncId) (args : Array Value) (l : List UInt8) : Prop :=
  ∀ twd fg W F s', (∃ cc cl, s' = { s.rst with cc := cc, cl := cl, ln := L }) → PW (twSink S tb twd fg) pb b (.pointer (some ⟨tb, 0, none⟩)) W F [] s' → (∀ k, F k → (O k ∨ Fs k) ∨ w.heap.size ≤ k) → Upd (fun k => O k ∨ Fs k) w W →
    Calls Tryz.prog f args W fun e w' => e = .returned (.tuple #[]) ∧ ∃ s'', s.Same s'' ∧ s''.lin ≤ s''.lic ∧ PWr (twSink S tb twd fg) pb b (.pointer (some ⟨tb, 0, none⟩)) W F l s'' w'

theorem PSt.pw {T : Sink} {pb b g : Nat} {tv : Value} {w : World} {Fs : Nat → Prop} {s : PS} (h : PSt T pb b g (.iface 71 (.pointer (some ⟨b, 0, none⟩))) tv (.pointer none) w Fs [] [] s) : PW T pb b tv w (fun k => k = b ∨ k = g ∨ Fs k) [] s := by
  obtain ⟨h1, h2, h3, h4, h5⟩ := h
  exact ⟨h1, ⟨[], [], h2.bufP, rfl⟩, fun e => by rcases e with e | e | e; exact h4 e; exact h5 e; exact h3 e⟩

/-- What is known where the buffer and the tabwriter have been made ready, whatever is printed. -/
structure PgReady (S : Sink) (pb b g tb twd fg : Nat) (s : PS) (w w2 : World) (G Fs H2 : Nat → Prop) : Prop where
  cell : PCell pb w2 (wvOf s.kp pb b) (.pointer (some ⟨tb, 0, none⟩)) (cvOf s.kp b) s.rst
  buf : BufRaw b g w2
  idle : TwIdle S tb w2 H2 [] [] twd fg
  own : ∀ k, H2 k → ((PrOwn pb b g tb G k ∨ Fs k) ∨ w.heap.size ≤ k)
  np : ¬ H2 pb ∧ ¬ H2 b ∧ ¬ H2 g
  ne : pb ≠ b ∧ pb ≠ g
  upd : Upd (fun k => PrOwn pb b g tb G k ∨ Fs k) w w2

theorem pg_ready {S : Sink} {pb b g tb twd fg : Nat} {s : PS} {w w1 w2 : World} {G Fs H2 : Nat → Prop} (h : PrIdle pb b g tb s w G) (hdF : ∀ k, PrOwn pb b g tb G k → ¬ Fs k)
    (hp1 : PCell pb w1 (wvOf s.kp pb b) (.pointer (some ⟨tb, 0, none⟩)) (cvOf s.kp b) s.rst) (hu1 : Upd (fun k => k = pb) w w1)
    (hi2 : TwIdle S tb w2 H2 [] [] twd fg) (hH2 : ∀ k, H2 k → (k = tb ∨ G k ∨ Fs k) ∨ w1.heap.size ≤ k) (hu2 : Upd (fun k => k = tb ∨ G k) w1 w2) : PgReady S pb b g tb twd fg s w w2 G Fs H2 := by
  have hlt := h.own_lt
  obtain ⟨hc, hb, ht, hl, hd⟩ := h
  obtain ⟨d1, d2, d3, d4, d5, d6, d7, d8⟩ := hd
  have hz := hu1.size
  have hn : ∀ k, k < w.heap.size → k ≠ tb → ¬ G k → ¬ Fs k → ¬ H2 k := fun k hk h1 h2 h3 hh => by
    rcases hH2 k hh with (h | h | h) | h
    · exact h1 h
    · exact h2 h
    · exact h3 h
    · omega
  refine ⟨hp1.keep hu2 (fun e => e.elim d3 d6), (hb.stable hu1 (fun e => d1 e.symm) (fun e => d2 e.symm)).stable hu2 (fun e => e.elim d4 d7) (fun e => e.elim d5 d8), hi2, fun k hk => ?_, ⟨?_, ?_, ?_⟩, ⟨d1, d2⟩, ?_⟩
  · rcases hH2 k hk with (h | h | h) | h
    · exact .inl (.inl (.inr (.inr (.inr (.inl h)))))
    · exact .inl (.inl (.inr (.inr (.inr (.inr h)))))
    · exact .inl (.inr h)
    · exact .inr (Nat.le_trans hz h)
  · exact hn pb (hlt pb (.inl rfl)) d3 d6 (hdF pb (.inl rfl))
  · exact hn b (hlt b (.inr (.inl rfl))) d4 d7 (hdF b (.inr (.inl rfl)))
  · exact hn g (hlt g (.inr (.inr (.inl rfl)))) d5 d8 (hdF g (.inr (.inr (.inl rfl))))
  · refine (hu1.mono fun k hk => .inl (.inl hk)).trans (hu2.mono fun k hk => ?_)
    rcases hk with h | h
    · exact .inl (.inr (.inr (.inr (.inl h))))
    · exact .inl (.inr (.inr (.inr (.inr h))))
end Go.Proofs.YtmdkpihlhdjjaaaGreatFmt
