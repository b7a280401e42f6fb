/-
  append onto a row that is owned, cells of whatever size: with the block of the result said.
-/
import Derived.Test.YtdfgcopelfmcmaaGreatFmtCore
import Derived.Laws.OwnMore
namespace Go.Proofs.YtdfgcopelfmcmaaGreatFmt
open Go.RowKit

theorem ownsRow_mono {w : World} {B : Nat} {e : TypeId} {size : Nat} {v : Value} {n : Nat} {xs : List Value} (h : w.ownsRow B e size v n xs) : w.ownsRow 0 e size v n xs := by
  refine ⟨h.1, ?_⟩
  rcases h.2 with h | ⟨g, cap, cur, h1, _, h2⟩
  · exact .inl h
  · exact .inr ⟨g, cap, cur, h1, Nat.zero_le _, h2⟩

theorem append_own {P : Program} (w : World) (t ty e : TypeId) (i : TypeInfo) (z : Value) (size bytes : Nat) (ht : P.underlying t = some (.slice e)) (hi : P.info? e = some i) (hz : i.zero = some z)
    (hsize : i.size = size) (hby : i.bytes = bytes) (hzs : z.cells.size = size) (hsz : 0 < size) {v : Value} {n : Nat} {xs : List Value} (h : w.ownsRow 0 e size v n xs)
    (a : Addr) (m c : Nat) (news : List Value) (hl : news.length = m * size) (hnews : ∀ j u, news[j]? = some u → w.cell? (a.add j) = some u) (h1 : ∀ u ∈ news, u.oneCell' = true)
    (h63 : n + m ≤ maxLen) (hbytes : (n + m) * bytes ≤ 140737488355328) :
    ∃ v' w', (Builtin.append_ #[t, t] ty #[v, .slice (some a) m c]).run P w = .ok v' w' ∧ w'.ownsRow 0 e size v' (n + m) (xs ++ news) ∧ w.grownBy w' v.ownBlock ∧ (∀ k, v'.ownBlock = some k → v.ownBlock = some k ∨ w.heap.size ≤ k) := by
  have hm : maxLen = 9223372036854775807 := rfl
  rcases h.2 with ⟨rfl, h0⟩ | ⟨g, cap, cur, rfl, _, hg, hnc, hcm, hcs, htk⟩
  · subst h0
    have hx : xs = [] := List.length_eq_zero_iff.1 (by simpa using h.1)
    subst hx
    obtain ⟨v', w', hr, ho, hgr, _⟩ := run_append_own (P := P) w w.heap.size t ty e i z size bytes ht hi hz hsize hby hzs hsz (.slice none 0 0) 0 [] (World.ownsRow_nil _ _ _ _) a m c news hl hnews h1 h63 hbytes (Nat.le_refl _)
    exact ⟨v', w', hr, ownsRow_mono ho, hgr, fun k hk => .inr (ho.lt k hk).1⟩
  · by_cases hroom : n + m ≤ cap
    · obtain ⟨w', hr, ho, hgr⟩ := run_append_fits (P := P) w 0 t ty e i size ht hi hsize g n cap xs h a m c news hl hnews h1 hroom
      exact ⟨_, w', hr, ho, hgr, fun k hk => .inl hk⟩
    · obtain ⟨v', w', hr, ho, hgr, _⟩ := run_append_own (P := P) w 0 t ty e i z size bytes ht hi hz hsize hby hzs hsz _ _ _ h a m c news hl hnews h1 h63 hbytes (Nat.zero_le _)
      have hgr2 : ∃ n' c2 w2, (Builtin.append_ #[t, t] ty #[.slice (some ⟨g, 0, none⟩) n cap, .slice (some a) m c]).run P w = .ok (.slice (some ⟨w.heap.size, 0, none⟩) n' c2) w2 := by
        refine ⟨_, _, _, run_append_grow (P := P) w t ty e i z ht hi hz ⟨g, 0, none⟩ n cap xs (by rw [hsize]; exact h.1) (fun j u hj => h.cells rfl j u hj) a m c news (by rw [hsize]; exact hl) hnews (by omega) (by omega) ?_⟩
        rw [hby]
        exact growslice_fits (by omega) hbytes
      obtain ⟨n', c2, w2, hr2⟩ := hgr2
      have he := hr.symm.trans hr2
      simp only [Result.ok.injEq] at he
      obtain ⟨rfl, rfl⟩ := he
      refine ⟨_, _, hr, ho, hgr, fun k hk => .inr ?_⟩
      simp only [Value.ownBlock, Option.some.injEq] at hk
      omega
end Go.Proofs.YtdfgcopelfmcmaaGreatFmt
