/-
  Print of an empty *File: what is known where the buffer and the tabwriter are ready.
-/
import Derived.Test.YtdfgcopelfmcmaaGreatFmtPeE
namespace Go.Proofs.YtdfgcopelfmcmaaGreatFmt
open Go.RowKit

theorem PrIdle.own_lt {pb b g tb : Nat} {s : PS} {w : World} {G : Nat → Prop} (h : PrIdle pb b g tb s w G) : ∀ k, PrOwn pb b g tb G k → k < w.heap.size := by
  obtain ⟨hc, ⟨_, _, _, _, hb, hg, _⟩, ⟨_, _, _, _, _, _, _, _, _, _, _, _, _, _, _, ht, _, _, _, _, hG⟩, _, _⟩ := h
  rintro k (rfl | rfl | rfl | rfl | hk)
  · exact heap_lt hc
  · exact heap_lt hb
  · exact heap_lt hg
  · exact heap_lt ht
  · exact hG k hk

/-- What is known where the buffer and the tabwriter have been made ready. -/
structure PrReady (S : Sink) (pb b g tb fb twd fg : Nat) (s : PS) (fn : Value) (w w2 : World) (G Fs H2 : Nat → Prop) : Prop where
  cell : PCell pb w2 (wvOf s.kp pb b) (.pointer (some ⟨tb, 0, none⟩)) (cvOf s.kp b) s.rst
  buf : BufRaw b g w2
  idle : TwIdle S tb w2 H2 [] [] twd fg
  file : w2.heap[fb]? = some (.cells #[fn, .slice none 0 0, .slice none 0 0] 52 (0, 0))
  own : ∀ k, H2 k → ((PrOwn pb b g tb G k ∨ Fs k) ∨ w.heap.size ≤ k)
  np : ¬ H2 pb ∧ ¬ H2 b ∧ ¬ H2 g ∧ ¬ H2 fb
  ne : pb ≠ b ∧ pb ≠ g ∧ fb ≠ pb ∧ fb ≠ b ∧ fb ≠ g
  upd : Upd (fun k => PrOwn pb b g tb G k ∨ Fs k) w w2

theorem pr_ready {S : Sink} (_ : S.Law Tryz.prog 542) {pb b g tb fb twd fg : Nat} {s : PS} {fn : Value} {w w1 w2 : World} {G Fs H2 : Nat → Prop} (h : PrIdle pb b g tb s w G) (hdF : ∀ k, PrOwn pb b g tb G k → ¬ Fs k)
    (hf : w.heap[fb]? = some (.cells #[fn, .slice none 0 0, .slice none 0 0] 52 (0, 0))) (hfo : ¬ PrOwn pb b g tb G fb) (hfF : ¬ Fs fb)
    (hp1 : PCell pb w1 (wvOf s.kp pb b) (.pointer (some ⟨tb, 0, none⟩)) (cvOf s.kp b) s.rst) (hu1 : Upd (fun k => k = pb) w w1)
    (hi2 : TwIdle S tb w2 H2 [] [] twd fg) (hH2 : ∀ k, H2 k → (k = tb ∨ G k ∨ Fs k) ∨ w1.heap.size ≤ k) (hu2 : Upd (fun k => k = tb ∨ G k) w1 w2) : PrReady S pb b g tb fb twd fg s fn w w2 G Fs H2 := by
  have hlt := h.own_lt
  obtain ⟨hc, hb, ht, hl, hd⟩ := h
  obtain ⟨d1, d2, d3, d4, d5, d6, d7, d8⟩ := hd
  have hfp : fb ≠ pb := fun e => hfo (.inl e)
  have hfb : fb ≠ b := fun e => hfo (.inr (.inl e))
  have hfg : fb ≠ g := fun e => hfo (.inr (.inr (.inl e)))
  have hft : fb ≠ tb := fun e => hfo (.inr (.inr (.inr (.inl e))))
  have hfG : ¬ G fb := fun e => hfo (.inr (.inr (.inr (.inr e))))
  have hz := hu1.size
  have hn : ∀ k, k < w.heap.size → k ≠ tb → ¬ G k → ¬ Fs k → ¬ H2 k := fun k hk h1 h2 h3 hh => by
    rcases hH2 k hh with (h | h | h) | h
    · exact h1 h
    · exact h2 h
    · exact h3 h
    · omega
  refine ⟨hp1.keep hu2 (fun e => e.elim d3 d6), (hb.stable hu1 (fun e => d1 e.symm) (fun e => d2 e.symm)).stable hu2 (fun e => e.elim d4 d7) (fun e => e.elim d5 d8), hi2, ?_, fun k hk => ?_, ⟨?_, ?_, ?_, ?_⟩, ⟨d1, d2, hfp, hfb, hfg⟩, ?_⟩
  · exact (hu2.heap (hu1.heap hf hfp) (fun e => e.elim hft hfG))
  · rcases hH2 k hk with (h | h | h) | h
    · exact .inl (.inl (.inr (.inr (.inr (.inl h)))))
    · exact .inl (.inl (.inr (.inr (.inr (.inr h)))))
    · exact .inl (.inr h)
    · exact .inr (Nat.le_trans hz h)
  · exact hn pb (hlt pb (.inl rfl)) d3 d6 (hdF pb (.inl rfl))
  · exact hn b (hlt b (.inr (.inl rfl))) d4 d7 (hdF b (.inr (.inl rfl)))
  · exact hn g (hlt g (.inr (.inr (.inl rfl)))) d5 d8 (hdF g (.inr (.inr (.inl rfl))))
  · exact hn fb (heap_lt hf) hft hfG hfF
  · refine (hu1.mono fun k hk => .inl (.inl hk)).trans (hu2.mono fun k hk => ?_)
    rcases hk with h | h
    · exact .inl (.inr (.inr (.inr (.inl h))))
    · exact .inl (.inr (.inr (.inr (.inr h))))

end Go.Proofs.YtdfgcopelfmcmaaGreatFmt
