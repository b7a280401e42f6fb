/-
  Print of an empty *File, whatever the options.
-/
import Derived.Test.YtdfgcopelfmcmaaGreatFmtPeH
namespace Go.Proofs.YtdfgcopelfmcmaaGreatFmt
open Go.RowKit

theorem PrAny.lt {pb b tb : Nat} {s : PS} {w : World} {O : Nat → Prop} (h : PrAny pb b tb s w O) : ∀ k, O k → k < w.heap.size := by
  obtain ⟨g, G, h, hO⟩ := h
  exact fun k hk => h.own_lt k ((hO k).1 hk)

theorem PrAny.stable {pb b tb : Nat} {s : PS} {w w' : World} {O F : Nat → Prop} (h : PrAny pb b tb s w O) (hu : Upd F w w') (hd : ∀ k, O k → ¬ F k) : PrAny pb b tb s w' O := by
  obtain ⟨g, G, ⟨hc, hb, ht, hl, hdis⟩, hO⟩ := h
  refine ⟨g, G, ⟨hc.keep hu (hd pb ((hO pb).2 (.inl rfl))), hb.stable hu (hd b ((hO b).2 (.inr (.inl rfl)))) (hd g ((hO g).2 (.inr (.inr (.inl rfl))))), ht.stable hu fun k hk => ?_, hl, hdis⟩, hO⟩
  rcases hk with rfl | hk
  · exact hd _ ((hO _).2 (.inr (.inr (.inr (.inl rfl)))))
  · exact hd k ((hO k).2 (.inr (.inr (.inr (.inr hk)))))

theorem PrAny.pcell {pb b tb : Nat} {s : PS} {w : World} {O : Nat → Prop} (h : PrAny pb b tb s w O) : PCell pb w (wvOf s.kp pb b) (.pointer (some ⟨tb, 0, none⟩)) (cvOf s.kp b) s := by
  obtain ⟨g, G, h, hO⟩ := h
  exact h.cell
theorem PrAny.own {pb b tb : Nat} {s : PS} {w : World} {O : Nat → Prop} (h : PrAny pb b tb s w O) : O pb := by
  obtain ⟨g, G, h, hO⟩ := h
  exact (hO pb).2 (.inl rfl)

/-- Print of an empty file, refused or not. -/
theorem pe_Print {S : Sink} (hs : S.Law Tryz.prog 542) (hok : ∀ c, S.okb c = true) {pb b tb fb : Nat} {s : PS} {w : World} {O Fs : Nat → Prop} (h : PrAny pb b tb s w O) (hm : (s.mi && s.si) = false) (hkk : s.k ≤ 1073741824)
    (hI : S.I w Fs []) (hdF : ∀ k, O k → ¬ Fs k) (hfile : FileAt fb w) (hfo : ¬ O fb) (hfF : ¬ Fs fb) :
    Calls Tryz.prog 30 #[.pointer (some ⟨pb, 0, none⟩), .iface S.ty (.pointer (some S.ptr)), .iface 48 (.pointer (some ⟨fb, 0, none⟩))] w fun e w' => e = .returned .nilIface ∧ PrintDone S pb b tb s O Fs w w' := by
  obtain ⟨g, G, h, hO⟩ := h
  obtain rfl : O = PrOwn pb b g tb G := funext fun k => propext (hO k)
  cases hkp : s.kp <;> by_cases hk0 : s.k = 0 <;> cases hmi : s.mi
  · exact pe_Print_b0n hs hok h hkp hk0 hmi hkk hI hdF hfile hfo hfF
  · exact pe_Print_b0m hs hok h hkp hk0 hmi (by rw [hmi] at hm; exact hm) hkk hI hdF hfile hfo hfF
  · exact pe_Print_bkn hs hok h hkp hk0 hmi hkk hI hdF hfile hfo hfF
  · exact pe_Print_bkm hs hok h hkp hk0 hmi (by rw [hmi] at hm; exact hm) hkk hI hdF hfile hfo hfF
  · exact pe_Print_c0n hs hok h hkp hk0 hmi hkk hI hdF hfile hfo hfF
  · exact pe_Print_c0m hs hok h hkp hk0 hmi (by rw [hmi] at hm; exact hm) hkk hI hdF hfile hfo hfF
  · exact pe_Print_ckn hs hok h hkp hk0 hmi hkk hI hdF hfile hfo hfF
  · exact pe_Print_ckm hs hok h hkp hk0 hmi (by rw [hmi] at hm; exact hm) hkk hI hdF hfile hfo hfF

/-- .. refused. -/
theorem pe_Print_no {S : Sink} {pb b tb : Nat} {s : PS} {w : World} {O : Nat → Prop} (h : PrAny pb b tb s w O) (hm : (s.mi && s.si) = true) (nd : Value) :
    Calls Tryz.prog 30 #[.pointer (some ⟨pb, 0, none⟩), .iface S.ty (.pointer (some S.ptr)), nd] w fun e w' => (∃ t v, e = .returned (.iface t v)) ∧ ∃ s', PrAny pb b tb s' w' O ∧ s.Same s' ∧ Upd O w w' := by
  obtain ⟨g, G, h, hO⟩ := h
  rw [Bool.and_eq_true] at hm
  refine (pe_Print_refuses h hm.1 hm.2 nd).mono ?_
  rintro e w' ⟨he, h', hu⟩
  exact ⟨he, s.rst, ⟨g, G, h', hO⟩, ⟨rfl, rfl, rfl, rfl, rfl, rfl, rfl, rfl, rfl, Nat.zero_le _⟩, hu.mono fun k hk => (hO k).2 (.inl hk)⟩
end Go.Proofs.YtdfgcopelfmcmaaGreatFmt
