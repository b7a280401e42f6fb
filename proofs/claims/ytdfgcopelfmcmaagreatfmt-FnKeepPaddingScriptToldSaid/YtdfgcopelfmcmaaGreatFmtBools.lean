/-
  A slice of bools that came in, opened.
-/
import Derived.Test.YtdfgcopelfmcmaaGreatFmtN67B
import Derived.Test.YtdfgcopelfmcmaaGreatFmtCard
import Derived.Deep.Grids
namespace Go.Proofs.YtdfgcopelfmcmaaGreatFmt
open Go.ChangeShapes Go.WideShapes Go.ChangeAt Go.RowKit Go.Kit

section
variable {H : Type} {enc : TypeId × Value → H} {P : Program} {w : World} {base : Nat} {spare : Nat → Bool} {held : Bool}
theorem trodAll_5 {t0 t1 t2 t3 t4 : TypeId} {args : Array Value} {ds : List (DataW H)} {ps : List MemPlace} (h : DataW.TrodAll enc P w base spare held [t0, t1, t2, t3, t4] args.toList ds ps) :
    ∃ v0 v1 v2 v3 v4 d0 d1 d2 d3 d4 p0 p1 p2 p3 p4, args = #[v0, v1, v2, v3, v4] ∧ ds = [d0, d1, d2, d3, d4] ∧ ps = p0 ++ p1 ++ p2 ++ p3 ++ p4 ∧ DataW.Trod enc P w base spare held t0 v0 d0 p0 ∧ DataW.Trod enc P w base spare held t1 v1 d1 p1 ∧
      DataW.Trod enc P w base spare held t2 v2 d2 p2 ∧ DataW.Trod enc P w base spare held t3 v3 d3 p3 ∧ DataW.Trod enc P w base spare held t4 v4 d4 p4 := by
  obtain ⟨v0, vs, d0, ds', p0, q, hargs, rfl, rfl, h0, hrest⟩ := trodAll_cons h
  obtain ⟨v1, vs', d1, ds'', p1, q', rfl, rfl, rfl, h1, hrest'⟩ := trodAll_cons hrest
  obtain ⟨v2, vs'', d2, ds''', p2, q'', rfl, rfl, rfl, h2, hrest''⟩ := trodAll_cons hrest'
  obtain ⟨v3, vs3, d3, ds3, p3, q3, rfl, rfl, rfl, h3, hrest3⟩ := trodAll_cons hrest''
  obtain ⟨v4, vs4, d4, ds4, p4, q4, rfl, rfl, rfl, h4, hrest4⟩ := trodAll_cons hrest3
  obtain ⟨rfl, rfl, rfl⟩ := trodAll_nil hrest4
  exact ⟨v0, v1, v2, v3, v4, d0, d1, d2, d3, d4, p0, p1, p2, p3, p4, by cases args; simp_all, rfl, by simp, h0, h1, h2, h3, h4⟩
end

theorem bools_of_trod {H : Type} {enc : TypeId × Value → H} {w : World} {base : Nat} {held : Bool} {fuel : Nat} {vo : Option Addr} {vn vc : Nat} {x : DataW H × List MemPlace}
    (h : DataW.trod enc Tryz.prog w base (fun _ => true) held fuel 26 (Value.slice vo vn vc).cells.toList = some x) : ∃ L, BoolsRd w (.slice vo vn vc) L ∧ L.length ≤ maxLen := by
  rcases Go.Deep.open_bools Tryz.underlying26 Tryz.underlying4 (by kernel_rfl) h with ⟨hcs, _⟩ | ⟨a, len, cap, B, hcs, _, hle, hmx, _, hcell⟩
  · simp [Value.cells] at hcs
    obtain ⟨rfl, rfl, rfl⟩ := hcs
    exact ⟨[], .inl ⟨rfl, rfl⟩, Nat.zero_le _⟩
  · simp [Value.cells] at hcs
    obtain ⟨rfl, rfl, rfl⟩ := hcs
    refine ⟨(List.range vn).map B, .inr ⟨a, vc, by simp, by simpa using hle, fun j b hj => ?_⟩, by simp; omega⟩
    simp only [List.getElem?_map] at hj
    by_cases hjn : j < vn
    · rw [List.getElem?_range hjn] at hj
      simp only [Option.map_some, Option.some.injEq] at hj
      rw [← hj]
      exact hcell j (by omega)
    · rw [List.getElem?_eq_none (by simpa using hjn)] at hj
      cases hj
end Go.Proofs.YtdfgcopelfmcmaaGreatFmt
