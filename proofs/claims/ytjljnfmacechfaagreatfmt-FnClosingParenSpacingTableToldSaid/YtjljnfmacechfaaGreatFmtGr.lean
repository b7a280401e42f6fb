/-
  Rows of values of one cell each that the program makes by append, one value after another.
-/
import Derived.Test.YtjljnfmacechfaaGreatFmtTl
namespace Go.Proofs.YtjljnfmacechfaaGreatFmt
open Go.RowKit

/-- v is the nil slice or the head of a row that holds xs. -/
def RowG (e : TypeId) (w : World) (v : Value) (xs : List Value) : Prop := w.ownsRow 0 e 1 v xs.length xs
theorem RowG.nil (e : TypeId) (w : World) : RowG e w (.slice none 0 0) [] := World.ownsRow_nil _ _ _ _
theorem RowG.form {e : TypeId} {w : World} {v : Value} {xs : List Value} (h : RowG e w v xs) : ∃ ao c, v = .slice ao xs.length c := by
  rcases h.2 with ⟨rfl, h0⟩ | ⟨g, cap, cur, rfl, _⟩
  · exact ⟨none, 0, by rw [h0]⟩
  · exact ⟨_, _, rfl⟩
theorem RowG.lies {e : TypeId} {w : World} {v : Value} {xs : List Value} (h : RowG e w v xs) (hne : xs ≠ []) :
    ∃ g cap cur, v = .slice (some ⟨g, 0, none⟩) xs.length cap ∧ w.heap[g]? = some (.cells cur e (0, 0)) ∧ xs.length ≤ cap ∧ cap ≤ maxLen ∧ ∀ (j : Nat) (u : Value), xs[j]? = some u → cur[j]? = some u := by
  rcases h.2 with ⟨rfl, h0⟩ | ⟨g, cap, cur, rfl, _, h1, h2, h3, h4, h5⟩
  · exact absurd (List.length_eq_zero_iff.1 h0) hne
  · refine ⟨g, cap, cur, rfl, h1, h2, h3, fun j u hj => ?_⟩
    have hlt : j < xs.length := (List.getElem?_eq_some_iff.1 hj).1
    rw [← h5, List.getElem?_take_of_lt (by omega)] at hj
    simpa using hj
theorem RowG.stable {e : TypeId} {w w' : World} {v : Value} {xs : List Value} {F : Nat → Prop} (h : RowG e w v xs) (hu : Upd F w w') (hn : ∀ k, v.ownBlock = some k → ¬ F k) : RowG e w' v xs := by
  obtain ⟨h1, h2⟩ := h
  refine ⟨h1, ?_⟩
  rcases h2 with h | ⟨g, cap, cur, rfl, h4, h5, h6⟩
  · exact .inl h
  · exact .inr ⟨g, cap, cur, rfl, h4, hu.heap h5 (hn g rfl), h6⟩

theorem RowG.lt {e : TypeId} {w : World} {v : Value} {xs : List Value} (h : RowG e w v xs) (k : Nat) (hk : v.ownBlock = some k) : k < w.heap.size := by
  rcases h.2 with ⟨rfl, _⟩ | ⟨g, cap, cur, rfl, _, h1, _⟩
  · simp [Value.ownBlock] at hk
  · simp only [Value.ownBlock, Option.some.injEq] at hk
    subst hk
    exact heap_lt h1

set_option maxRecDepth 100000 in
/-- One value more, out of a box. -/
theorem RowG.push {P : Program} {t e : TypeId} {i : TypeInfo} {z : Value} {by' : Nat} (ht : P.underlying t = some (.slice e)) (hi : P.info? e = some i) (hz : i.zero = some z) (hsz : i.size = 1) (hby : i.bytes = by') (hzs : z.cells.size = 1) (hbb : by' ≤ 16)
    {w : World} {v : Value} {xs : List Value} (h : RowG e w v xs) (x : Value) (h1 : x.oneCell' = true) (hl : xs.length + 1 ≤ 1099511627776) {n : Nat} (hn : n = w.heap.size) :
    ∃ v' w', (Builtin.append_ #[t, t] t #[v, .slice (some ⟨n, 0, none⟩) 1 1]).run P (w.alloc (.cells #[x] e)) = .ok v' w' ∧ RowG e w' v' (xs ++ [x]) ∧ Upd (fun k => v.ownBlock = some k) w w' ∧ (∀ k, v'.ownBlock = some k → v.ownBlock = some k ∨ w.heap.size ≤ k) := by
  subst hn
  have hu : Upd (fun _ => False) w (w.alloc (.cells #[x] e)) := (Upd.refl _ w).alloc _
  have hm : maxLen = 9223372036854775807 := rfl
  obtain ⟨v', w', hr, ho, hg, hown⟩ := append_own (P := P) (w.alloc (.cells #[x] e)) t t e i z 1 by' ht hi hz hsz hby hzs (by decide) (v := v) (n := xs.length) (xs := xs) (h.stable hu fun _ _ h => h) ⟨w.heap.size, 0, none⟩ 1 1 [x] rfl
    (fun j u hj => by
      rcases j with _ | j
      · simp only [List.getElem?_cons_zero, Option.some.injEq] at hj
        subst hj
        exact cell_at (heap_alloc_new w _) 0
      · simp at hj) (fun u hu => by rw [List.mem_singleton] at hu; rw [hu]; exact h1) (by omega) (by
        have := Nat.mul_le_mul hl hbb
        omega)
  refine ⟨v', w', hr, ?_, (hu.mono fun _ h => h.elim).trans ((Upd.refl (fun k => v.ownBlock = some k) _).grown hg fun k hk => .inl hk), fun k hk => ?_⟩
  · unfold RowG
    rw [List.length_append]
    exact ho
  · rcases hown k hk with h | h
    · exact .inl h
    · exact .inr (by have := hu.size; omega)

set_option maxRecDepth 100000 in
/-- Another row's values more. -/
theorem RowG.app {P : Program} {t e : TypeId} {i : TypeInfo} {z : Value} {by' : Nat} (ht : P.underlying t = some (.slice e)) (hi : P.info? e = some i) (hz : i.zero = some z) (hsz : i.size = 1) (hby : i.bytes = by') (hzs : z.cells.size = 1) (hbb : by' ≤ 16)
    {w : World} {v : Value} {xs : List Value} (h : RowG e w v xs) (a : Addr) (c : Nat) (ys : List Value) (hy : ∀ (j : Nat) (u : Value), ys[j]? = some u → w.cell? (a.add j) = some u) (h1 : ∀ u ∈ ys, u.oneCell' = true) (hl : xs.length + ys.length ≤ 1099511627776) :
    ∃ v' w', (Builtin.append_ #[t, t] t #[v, .slice (some a) ys.length c]).run P w = .ok v' w' ∧ RowG e w' v' (xs ++ ys) ∧ Upd (fun k => v.ownBlock = some k) w w' ∧ (∀ k, v'.ownBlock = some k → v.ownBlock = some k ∨ w.heap.size ≤ k) := by
  have hm : maxLen = 9223372036854775807 := rfl
  obtain ⟨v', w', hr, ho, hg, hown⟩ := append_own (P := P) w t t e i z 1 by' ht hi hz hsz hby hzs (by decide) (v := v) (n := xs.length) (xs := xs) h a ys.length c ys (by omega) hy h1 (by omega) (by
        have := Nat.mul_le_mul hl hbb
        omega)
  refine ⟨v', w', hr, ?_, (Upd.refl (fun k => v.ownBlock = some k) _).grown hg fun k hk => .inl hk, hown⟩
  unfold RowG
  rw [List.length_append]
  exact ho

/-- Rows of strings. -/
theorem RowG.strs {w : World} {v : Value} {L : List ByteArray} (h : RowG 9 w v (L.map .string)) : StrsRd w v L := by
  rcases h.2 with ⟨rfl, h0⟩ | ⟨g, cap, cur, rfl, _, h1, h2, h3, h4, h5⟩
  · exact .inl ⟨rfl, by simpa using h0⟩
  · refine .inr ⟨⟨g, 0, none⟩, cap, by rw [List.length_map], by rw [List.length_map] at h2; exact h2, fun j b hj => ?_⟩
    rw [Addr.add_base, cell_at h1]
    have hlt : j < L.length := (List.getElem?_eq_some_iff.1 hj).1
    have h6 : (L.map Value.string)[j]? = some (.string b) := by rw [List.getElem?_map, hj]; rfl
    rw [← h5, List.getElem?_take_of_lt (by rw [List.length_map]; omega)] at h6
    simpa using h6
set_option maxRecDepth 100000 in
theorem strInfo : ∃ i z, Tryz.prog.info? 9 = some i ∧ i.zero = some z ∧ z.cells.size = 1 ∧ i.size = 1 ∧ i.bytes = 16 := ⟨_, _, rfl, rfl, rfl, rfl, rfl⟩
theorem RowG.pushS {w : World} {v : Value} {xs : List Value} (h : RowG 9 w v xs) (s : ByteArray) (hl : xs.length + 1 ≤ 1099511627776) {n : Nat} (hn : n = w.heap.size) :
    ∃ v' w', (Builtin.append_ #[336, 336] 336 #[v, .slice (some ⟨n, 0, none⟩) 1 1]).run Tryz.prog (w.alloc (.cells #[.string s] 9)) = .ok v' w' ∧ RowG 9 w' v' (xs ++ [.string s]) ∧ Upd (fun k => v.ownBlock = some k) w w' ∧ (∀ k, v'.ownBlock = some k → v.ownBlock = some k ∨ w.heap.size ≤ k) := by
  obtain ⟨i, z, hi, hz, hzs, hsz, hby⟩ := strInfo
  exact RowG.push Tryz.underlying336 hi hz hsz hby hzs (by decide) h (.string s) rfl hl hn
theorem RowG.appS {w : World} {v x : Value} {xs : List Value} {L : List ByteArray} (h : RowG 9 w v xs) (hx : StrsRd w x L) (hne : L ≠ []) (hl : xs.length + L.length ≤ 1099511627776) :
    ∃ v' w', (Builtin.append_ #[336, 336] 336 #[v, x]).run Tryz.prog w = .ok v' w' ∧ RowG 9 w' v' (xs ++ L.map .string) ∧ Upd (fun k => v.ownBlock = some k) w w' ∧ (∀ k, v'.ownBlock = some k → v.ownBlock = some k ∨ w.heap.size ≤ k) := by
  obtain ⟨i, z, hi, hz, hzs, hsz, hby⟩ := strInfo
  rcases hx with ⟨_, rfl⟩ | ⟨a, c, rfl, _, hrd⟩
  · exact absurd rfl hne
  · have := RowG.app Tryz.underlying336 hi hz hsz hby hzs (by decide) h a c (L.map .string) (fun j u hj => by
      rw [List.getElem?_map] at hj
      cases hb : L[j]? with
      | none => rw [hb] at hj; cases hj
      | some b =>
        rw [hb] at hj
        simp only [Option.map_some, Option.some.injEq] at hj
        subst hj
        exact hrd j b hb) (fun u hu => by
        obtain ⟨b, _, rfl⟩ := List.mem_map.1 hu
        rfl) (by rw [List.length_map]; exact hl)
    rw [List.length_map] at this
    exact this
end Go.Proofs.YtjljnfmacechfaaGreatFmt
