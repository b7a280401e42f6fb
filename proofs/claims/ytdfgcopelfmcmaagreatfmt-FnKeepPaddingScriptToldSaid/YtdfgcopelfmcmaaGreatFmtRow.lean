/-
  A row of bytes that a writer owns, and what append makes of it, with the block of the result said.
-/
import Derived.Test.YtdfgcopelfmcmaaGreatFmtSink
import Derived.Test.YtdfgcopelfmcmaaGreatFmtProg
import Derived.Laws.OwnMore
namespace Go.Proofs.YtdfgcopelfmcmaaGreatFmt
open Go.RowKit

/-- An append whose run is known, at the operation. -/
theorem wpList_append_run {P : Program} {w w' : World} {ops : Array Oper} {rest : List Oper} {o : Oper} {a : Act} {Q : Exit → Act → World → Prop} (hgd : o.guard = none) (s x : Operand) (ts : Array TypeId)
    (ho : o.op = .call { callee := .builtin .append, args := #[s, x], argTypes := ts }) {u v v' : Value} (hs : a.eval s = u) (hx : a.eval x = v)
    (hr : (Builtin.append_ ts o.type #[u, v]).run P w = .ok v' w') (h : wpList P ops Q rest (a.put o.dst v') w') : wpList P ops Q (o :: rest) a w := by
  refine wpList_plain hgd fun _ hK => ?_
  unfold Oper.wp execOp
  simp only [ho, resolve, invoke, builtin, Sem.run_bind, Sem.run_pure, Result.andThen_ok, List.map_toArray, List.map_cons, List.map_nil, hs, hx, hr]
  exact hK _ _ h

/-- v is the nil slice, or the head of a row of bytes: it holds l. -/
def Row (w : World) (v : Value) (l : List UInt8) : Prop := w.ownsRow 0 5 1 v l.length (bv l)

theorem Row.mono {w : World} {B : Nat} {v : Value} {n : Nat} {xs : List Value} (h : w.ownsRow B 5 1 v n xs) : w.ownsRow 0 5 1 v n xs := by
  refine ⟨h.1, ?_⟩
  rcases h.2 with h | ⟨g, cap, cur, h1, _, h2⟩
  · exact .inl h
  · exact .inr ⟨g, cap, cur, h1, Nat.zero_le _, h2⟩

theorem Row.base {w : World} {B : Nat} {v : Value} {l : List UInt8} (h : Row w v l) (hB : ∀ k, v.ownBlock = some k → B ≤ k) : w.ownsRow B 5 1 v l.length (bv l) := by
  refine ⟨h.1, ?_⟩
  rcases h.2 with h | ⟨g, cap, cur, rfl, _, h2⟩
  · exact .inl h
  · exact .inr ⟨g, cap, cur, rfl, hB g rfl, h2⟩

theorem Row.form {w : World} {v : Value} {l : List UInt8} (h : Row w v l) : ∃ ao c, v = .slice ao l.length c := by
  rcases h.2 with ⟨rfl, h0⟩ | ⟨g, cap, cur, rfl, _⟩
  · exact ⟨none, 0, by rw [h0]⟩
  · exact ⟨_, _, rfl⟩

theorem Row.nil (w : World) : Row w (.slice none 0 0) [] := World.ownsRow_nil _ _ _ _

theorem Row.stable {w w' : World} {F : Nat → Prop} {v : Value} {l : List UInt8} (h : Row w v l) (hu : Upd F w w') (hn : ∀ k, v.ownBlock = some k → ¬ F k) : Row w' v l := by
  refine ⟨h.1, ?_⟩
  rcases h.2 with h | ⟨g, cap, cur, rfl, h1, h2, h3⟩
  · exact .inl h
  · exact .inr ⟨g, cap, cur, rfl, h1, hu.heap h2 (hn g rfl), h3⟩

theorem SliceRd.stable {w w' : World} {F G : Nat → Prop} {v : Value} {l : List UInt8} (h : SliceRd w F v l) (hu : Upd G w w') (hg : ∀ k, G k → F k) : SliceRd w' F v l := by
  rcases h with h | ⟨a, c, rfl, h1, h2⟩
  · exact .inl h
  · refine .inr ⟨a, c, rfl, h1, fun j u hj => ?_⟩
    have hne : l ≠ [] := by rintro rfl; simp at hj
    refine hu.cell (h2 j u hj) fun hf => (h1 hne).1 ?_
    have hb : (a.add j).block = a.block := by unfold Addr.add; split <;> rfl
    rw [← hb]
    exact hg _ hf

set_option maxRecDepth 100000 in
theorem append_row {w : World} {v x : Value} {l d : List UInt8} {F : Nat → Prop} (h : Row w v l) (hx : SliceRd w F x d) (hlim : l.length + d.length ≤ LIM) :
    ∃ v' w', (Builtin.append_ #[42, 42] 42 #[v, x]).run Tryz.prog w = .ok v' w' ∧ Row w' v' (l ++ d) ∧ w.grownBy w' v.ownBlock ∧ (∀ k, v'.ownBlock = some k → v.ownBlock = some k ∨ w.heap.size ≤ k) := by
  have ht : Tryz.prog.underlying 42 = some (.slice 5) := Tryz.underlying42
  obtain ⟨i, hi, hz, hsz, hby⟩ : ∃ i, Tryz.prog.info? 5 = some i ∧ i.zero = some (.int .u8 0) ∧ i.size = 1 ∧ i.bytes = 1 := ⟨_, rfl, rfl, rfl, rfl⟩
  rcases hx with ⟨rfl, rfl⟩ | ⟨a, c, rfl, _, hrd⟩
  · refine ⟨v, w, run_append_owned_none (P := Tryz.prog) w 0 42 42 5 i 1 ht hi v _ _ h, by rw [List.append_nil]; exact h, .refl _ _, fun k hk => .inl hk⟩
  have hlen : (bv d).length = d.length * 1 := by simp
  have hm : maxLen = 9223372036854775807 := rfl
  have hl : LIM = 1099511627776 := rfl
  rcases h.2 with ⟨rfl, h0⟩ | ⟨g, cap, cur, rfl, _, hg, hnc, hcm, hcs, htk⟩
  · have hle : l = [] := List.length_eq_zero_iff.1 h0
    subst hle
    obtain ⟨v', w', hr, ho, hgr, _⟩ := run_append_own (P := Tryz.prog) w w.heap.size 42 42 5 i (.int .u8 0) 1 1 ht hi hz hsz hby rfl (by decide) (.slice none 0 0) 0 [] (World.ownsRow_nil _ _ _ _) a d.length c (bv d) hlen hrd (bv_oneCell d)
      (by simp only [List.length_nil] at hlim; omega) (by simp only [List.length_nil] at hlim; omega) (Nat.le_refl _)
    refine ⟨v', w', hr, ?_, hgr, fun k hk => .inr (ho.lt k hk).1⟩
    have := Row.mono ho
    simpa [Row] using this
  · by_cases hroom : l.length + d.length ≤ cap
    · obtain ⟨w', hr, ho, hgr⟩ := run_append_fits (P := Tryz.prog) w 0 42 42 5 i 1 ht hi hsz g l.length cap (bv l) h a d.length c (bv d) hlen hrd (bv_oneCell d) hroom
      refine ⟨_, w', hr, ?_, hgr, fun k hk => .inl hk⟩
      unfold Row
      rw [List.length_append, bv_append]
      exact ho
    · obtain ⟨v', w', hr, ho, hgr, _⟩ := run_append_own (P := Tryz.prog) w 0 42 42 5 i (.int .u8 0) 1 1 ht hi hz hsz hby rfl (by decide) _ _ _ h a d.length c (bv d) hlen hrd (bv_oneCell d)
        (by omega) (by omega) (Nat.zero_le _)
      have hgr2 : ∃ n c2 w2, (Builtin.append_ #[42, 42] 42 #[.slice (some ⟨g, 0, none⟩) l.length cap, .slice (some a) d.length c]).run Tryz.prog w = .ok (.slice (some ⟨w.heap.size, 0, none⟩) n c2) w2 := by
        refine ⟨_, _, _, run_append_grow (P := Tryz.prog) w 42 42 5 i (.int .u8 0) ht hi hz ⟨g, 0, none⟩ l.length cap (bv l) (by rw [hsz]; simp) (fun j u hj => h.cells rfl j u hj) a d.length c (bv d) (by rw [hsz]; simp) hrd (by omega) (by omega) ?_⟩
        rw [hby]
        exact growslice_fits (by omega) (by omega)
      obtain ⟨n, c2, w2, hr2⟩ := hgr2
      have he := hr.symm.trans hr2
      simp only [Result.ok.injEq] at he
      obtain ⟨rfl, rfl⟩ := he
      refine ⟨_, _, hr, ?_, hgr, fun k hk => .inr ?_⟩
      · unfold Row
        rw [List.length_append, bv_append]
        exact ho
      · simp only [Value.ownBlock, Option.some.injEq] at hk
        omega

end Go.Proofs.YtdfgcopelfmcmaaGreatFmt
