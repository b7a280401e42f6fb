/-
  Print of an empty *File, whatever the options.
-/
import Derived.Test.YtnhmgjgdkcgmfaaGreatFmtPeH
import Derived.Test.YtnhmgjgdkcgmfaaGreatFmtMe
namespace Go.Proofs.YtnhmgjgdkcgmfaaGreatFmt
open Go.RowKit

/-- Print of an empty file. -/
theorem pe_Print {S : Sink} (hs : S.Law Tryz.prog 531) (hok : ∀ c, S.okb c = true) {pb b tb fb : Nat} {s : PS} {w : World} {O Fs : Nat → Prop} (h : PrAny pb b tb s w O) (hkp : s.kp = false) (hm : (s.mi && s.si) = false) (hkk : s.k ≤ 1073741824)
    (hI : S.I w Fs []) (hdF : ∀ k, O k → ¬ Fs k) (hfile : FileAt fb w) (hfo : ¬ O fb) (hfF : ¬ Fs fb) :
    Calls Tryz.prog 23 #[.pointer (some ⟨pb, 0, none⟩), .iface S.ty (.pointer (some S.ptr)), .iface 93 (.pointer (some ⟨fb, 0, none⟩))] w fun e w' => e = .returned .nilIface ∧ PrintDone S pb b tb s O Fs w w' := by
  obtain ⟨g, G, h, hO⟩ := h
  obtain rfl : O = PrOwn pb b g tb G := funext fun k => propext (hO k)
  by_cases hk0 : s.k = 0 <;> cases hmi : s.mi
  · exact pe_Print_b0n hs hok h hkp hk0 hmi hkk hI hdF hfile hfo hfF
  · exact pe_Print_b0m hs hok h hkp hk0 hmi (by rw [hmi] at hm; exact hm) hkk hI hdF hfile hfo hfF
  · exact pe_Print_bkn hs hok h hkp hk0 hmi hkk hI hdF hfile hfo hfF
  · exact pe_Print_bkm hs hok h hkp hk0 hmi (by rw [hmi] at hm; exact hm) hkk hI hdF hfile hfo hfF
end Go.Proofs.YtnhmgjgdkcgmfaaGreatFmt
