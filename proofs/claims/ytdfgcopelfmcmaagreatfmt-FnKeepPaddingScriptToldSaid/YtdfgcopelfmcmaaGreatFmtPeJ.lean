/-
  A Printer between two prints: small laws; Print refused.
-/
import Derived.Test.YtdfgcopelfmcmaaGreatFmtPeF
namespace Go.Proofs.YtdfgcopelfmcmaaGreatFmt
open Go.RowKit

theorem PrAny.lt {pb b tb : Nat} {s : PS} {w : World} {O : Nat → Prop} (h : PrAny pb b tb s w O) : ∀ k, O k → k < w.heap.size := by
  obtain ⟨g, G, h, hO⟩ := h
  exact fun k hk => h.own_lt k ((hO k).1 hk)

theorem PrAny.stable {pb b tb : Nat} {s : PS} {w w' : World} {O F : Nat → Prop} (h : PrAny pb b tb s w O) (hu : Upd F w w') (hd : ∀ k, O k → ¬ F k) : PrAny pb b tb s w' O := by
  obtain ⟨g, G, ⟨hc, hb, ht, hl, hdis⟩, hO⟩ := h
  refine ⟨g, G, ⟨hc.keep hu (hd pb ((hO pb).2 (.inl rfl))), hb.stable hu (hd b ((hO b).2 (.inr (.inl rfl)))) (hd g ((hO g).2 (.inr (.inr (.inl rfl))))), ht.stable hu fun k hk => ?_, hl, hdis⟩, hO⟩
  rcases hk with rfl | hk
  · exact hd _ ((hO _).2 (.inr (.inr (.inr (.inl rfl)))))
  · exact hd k ((hO k).2 (.inr (.inr (.inr (.inr hk)))))

theorem PrAny.pcell {pb b tb : Nat} {s : PS} {w : World} {O : Nat → Prop} (h : PrAny pb b tb s w O) : PCell pb w (wvOf s.kp pb b) (.pointer (some ⟨tb, 0, none⟩)) (cvOf s.kp b) s := by
  obtain ⟨g, G, h, hO⟩ := h
  exact h.cell
theorem PrAny.own {pb b tb : Nat} {s : PS} {w : World} {O : Nat → Prop} (h : PrAny pb b tb s w O) : O pb := by
  obtain ⟨g, G, h, hO⟩ := h
  exact (hO pb).2 (.inl rfl)

/-- .. refused. -/
theorem pe_Print_no {S : Sink} {pb b tb : Nat} {s : PS} {w : World} {O : Nat → Prop} (h : PrAny pb b tb s w O) (hm : (s.mi && s.si) = true) (nd : Value) :
    Calls Tryz.prog 30 #[.pointer (some ⟨pb, 0, none⟩), .iface S.ty (.pointer (some S.ptr)), nd] w fun e w' => (∃ t v, e = .returned (.iface t v)) ∧ ∃ s', PrAny pb b tb s' w' O ∧ s.Same s' ∧ Upd O w w' := by
  obtain ⟨g, G, h, hO⟩ := h
  rw [Bool.and_eq_true] at hm
  refine (pe_Print_refuses h hm.1 hm.2 nd).mono ?_
  rintro e w' ⟨he, h', hu⟩
  exact ⟨he, s.rst, ⟨g, G, h', hO⟩, ⟨rfl, rfl, rfl, rfl, rfl, rfl, rfl, rfl, rfl, Nat.zero_le _⟩, hu.mono fun k hk => (hO k).2 (.inl hk)⟩
end Go.Proofs.YtdfgcopelfmcmaaGreatFmt
