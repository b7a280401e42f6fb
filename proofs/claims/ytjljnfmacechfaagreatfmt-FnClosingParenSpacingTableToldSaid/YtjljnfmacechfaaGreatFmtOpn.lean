/-
  Slices of strings and of numbers that came in, opened.
-/
import Derived.Test.YtjljnfmacechfaaGreatFmtMa
import Derived.Test.YtjljnfmacechfaaGreatFmtCard
import Derived.SliceStrings
namespace Go.Proofs.YtjljnfmacechfaaGreatFmt
open Go.ChangeShapes Go.WideShapes Go.ChangeAt Go.RowKit Go.Kit

theorem strs_of_trod {H : Type} {enc : TypeId × Value → H} {w : World} {base : Nat} {held : Bool} {fuel : Nat} {vo : Option Addr} {vn vc : Nat} {x : DataW H × List MemPlace}
    (h : DataW.trod enc Tryz.prog w base (fun _ => true) held fuel 336 (Value.slice vo vn vc).cells.toList = some x) : ∃ L, StrsRd w (.slice vo vn vc) L ∧ L.length ≤ maxLen := by
  rcases open_strings Tryz.underlying336 Tryz.underlying9 (by kernel_rfl) h with ⟨hcs, _⟩ | ⟨a, len, cap, ss, hcs, _, hle, hmx, hsl, _, hcell, _⟩
  · simp [Value.cells] at hcs
    obtain ⟨rfl, rfl, rfl⟩ := hcs
    exact ⟨[], .inl ⟨rfl, rfl⟩, Nat.zero_le _⟩
  · simp [Value.cells] at hcs
    obtain ⟨rfl, rfl, rfl⟩ := hcs
    simp only [if_true] at hsl
    have hlen : (ss.take vn).length = vn := by rw [List.length_take]; omega
    refine ⟨ss.take vn, .inr ⟨a, vc, by rw [hlen], by omega, fun j b hj => ?_⟩, by omega⟩
    have hjn : j < vn := by rw [← hlen]; exact (List.getElem?_eq_some_iff.1 hj).1
    rw [List.getElem?_take, if_pos hjn] at hj
    rw [hcell j (by omega), List.getD_eq_getElem?_getD, hj]
    rfl


theorem bytes_of_trod {H : Type} {enc : TypeId × Value → H} {w : World} {base : Nat} {held : Bool} {fuel : Nat} {vo : Option Addr} {vn vc : Nat} {x : DataW H × List MemPlace}
    (h : DataW.trod enc Tryz.prog w base (fun _ => true) held fuel 22 (Value.slice vo vn vc).cells.toList = some x) : ∃ L, KsRd w (.slice vo vn vc) L ∧ L.length ≤ maxLen ∧ ∀ k ∈ L, k < 256 := by
  rcases open_ints Tryz.underlying22 Tryz.underlying5 (by kernel_rfl) h with ⟨hcs, _⟩ | ⟨a, len, cap, zs, hcs, _, hle, hmx, hsl, _, hcell, hwf⟩
  · simp [Value.cells] at hcs
    obtain ⟨rfl, rfl, rfl⟩ := hcs
    exact ⟨[], .inl ⟨rfl, rfl⟩, Nat.zero_le _, by simp⟩
  · simp [Value.cells] at hcs
    obtain ⟨rfl, rfl, rfl⟩ := hcs
    simp only [if_true] at hsl
    have hlen : ((zs.take vn).map Int.toNat).length = vn := by rw [List.length_map, List.length_take]; omega
    refine ⟨(zs.take vn).map Int.toNat, .inr ⟨a, vc, by rw [hlen], by omega, fun j b hj => ?_⟩, by omega, fun k hk => ?_⟩
    rotate_left
    · obtain ⟨z, hz, rfl⟩ := List.mem_map.1 hk
      have h1 := hwf z (List.mem_of_mem_take hz)
      have h2 : IntKind.u8.max = 255 := rfl
      simp [Lit.wf] at h1
      omega
    have hjn : j < vn := by rw [← hlen]; exact (List.getElem?_eq_some_iff.1 hj).1
    rw [List.getElem?_map, List.getElem?_take, if_pos hjn] at hj
    obtain ⟨z, hz, rfl⟩ := Option.map_eq_some_iff.1 hj
    have hzm : z ∈ zs := List.mem_of_getElem? hz
    have h0 : 0 ≤ z := by
      have h1 := hwf z hzm
      have h2 : IntKind.u8.min = 0 := rfl
      simp [Lit.wf] at h1
      omega
    rw [hcell j (by omega), List.getD_eq_getElem?_getD, hz]
    simp only [Option.getD_some]
    rw [Int.toNat_of_nonneg h0]
end Go.Proofs.YtjljnfmacechfaaGreatFmt
