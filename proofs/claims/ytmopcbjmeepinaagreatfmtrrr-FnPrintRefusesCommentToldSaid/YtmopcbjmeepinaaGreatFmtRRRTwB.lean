/-
  tabwriter.Writer: append.
-/
import Derived.Test.YtmopcbjmeepinaaGreatFmtRRRTwA
namespace Go.Proofs.YtmopcbjmeepinaaGreatFmtRRR
open Go.RowKit

theorem cells_type {w : World} {k : Nat} {a c : Array Value} {t u : TypeId} {f g : Nat × Nat} (h : w.heap[k]? = some (.cells a t f)) (h' : w.heap[k]? = some (.cells c u g)) : t = u := by
  rw [h] at h'
  injection h' with h1
  injection h1

theorem Row.block {w : World} {v : Value} {l : List UInt8} (h : Row w v l) {k : Nat} (hk : v.ownBlock = some k) : ∃ cur, w.heap[k]? = some (.cells cur 5 (0, 0)) := by
  rcases h.2 with ⟨rfl, _⟩ | ⟨g, cap, cur, rfl, _, hg, _⟩
  · cases hk
  · obtain rfl := Option.some.inj hk
    exact ⟨cur, hg⟩

theorem own_block {w : World} {B : Nat} {e : TypeId} {sz : Nat} {v : Value} {n : Nat} {xs : List Value} (h : w.ownsRow B e sz v n xs) {k : Nat} (hk : v.ownBlock = some k) : ∃ cur, w.heap[k]? = some (.cells cur e (0, 0)) := by
  rcases h.2 with ⟨rfl, _⟩ | ⟨g, cap, cur, rfl, _, hg, _⟩
  · cases hk
  · obtain rfl := Option.some.inj hk
    exact ⟨cur, hg⟩

theorem own_stable {w w' : World} {B : Nat} {e : TypeId} {sz : Nat} {v : Value} {n : Nat} {xs : List Value} {F : Nat → Prop} (h : w.ownsRow B e sz v n xs) (hu : Upd F w w') (hn : ∀ k, v.ownBlock = some k → ¬ F k) : w'.ownsRow B e sz v n xs := by
  refine ⟨h.1, ?_⟩
  rcases h.2 with h | ⟨g, cap, cur, rfl, h1, h2, h3⟩
  · exact .inl h
  · exact .inr ⟨g, cap, cur, rfl, h1, hu.heap h2 (hn g rfl), h3⟩

/-- The lines are not touched by a change of blocks of other types. -/
theorem TwLines.stable {w w' : World} {G G' F : Nat → Prop} {vl : Value} {nl : Nat} {c0 : List TCell} (h : TwLines w G vl nl c0) (hu : Upd F w w') (hG : ∀ k, G k → G' k)
    (hF : ∀ k cur t, F k → w.heap[k]? = some (.cells cur t (0, 0)) → t ≠ 331 ∧ t ≠ 107) : TwLines w' G' vl nl c0 := by
  obtain ⟨L, cap, cur, v0, h1, h2, h3, h4, h5, h6, h7, h8, h9, h10, h11, h12⟩ := h
  refine ⟨L, cap, cur, v0, h1, hu.heap h2 (fun e => (hF L _ _ e h2).1 rfl), h3, h4, h5, h6, hG _ h7, h8, own_stable h9 hu (fun k hk e => ?_), fun k hk => hG _ (h10 k hk), h11, h12⟩
  obtain ⟨c, hc⟩ := own_block h9 hk
  exact (hF k _ _ e hc).2 rfl

/-- The state after a step that leaves the sink alone. -/
theorem TwAt.next {P : Program} {fuel : Nat} {S : Sink} (hs : S.Law P fuel) {tb : Nat} {w w' : World} {G G' Fs : Nat → Prop} {inner t : List UInt8} {twd fg pos cs : Nat} {cw : Int} {ht : Bool} {nl : Nat} {c0 : List TCell} {vb vl : Value} {aw : Option Addr} {cap : Nat}
    (hI : S.I w Fs inner) (hFt : ¬ Fs tb) (hGt : ¬ G tb) (hGF : ∀ k, G k → ¬ Fs k) (hfg : fg = 10 ∨ fg = 26) (ht' : tb < w.heap.size)
    (hu : Upd (fun k => k = tb ∨ G k) w w') (hG' : ∀ k, G' k → (G k ∨ w.heap.size ≤ k) ∧ k < w'.heap.size)
    (hb : w'.heap[tb]? = some (.cells (twCells S twd fg vb pos cs cw ht vl (.slice aw 0 cap)) 111 (0, 0))) (hr : Row w' vb t) (hvb : ∀ k, vb.ownBlock = some k → G' k) (hl : TwLines w' G' vl nl c0) :
    TwAt S tb w' G' Fs inner t twd fg pos cs cw ht nl c0 := by
  refine ⟨vb, vl, aw, cap, hb, hr, hvb, hl, hs.stable hI hu ?_, hFt, ?_, ?_, fun k hk => (hG' k hk).2, hfg⟩
  · rintro k hk (rfl | h)
    · exact hFt hk
    · exact hGF k h hk
  · intro h
    rcases (hG' tb h).1 with h | h
    · exact hGt h
    · omega
  · intro k h hk
    rcases (hG' k h).1 with h | h
    · exact hGF k h hk
    · exact absurd (hs.lt hI k hk) (by omega)

set_option maxRecDepth 100000 in
set_option maxHeartbeats 1000000 in
theorem tw_append {S : Sink} (hs : S.Law Tryz.prog 548) {tb : Nat} {w : World} {G Fs : Nat → Prop} {inner t d : List UInt8} {twd fg pos cs : Nat} {cw : Int} {ht : Bool} {nl : Nat} {c0 : List TCell} {v : Value}
    (h : TwAt S tb w G Fs inner t twd fg pos cs cw ht nl c0) (hv : SliceRd w (fun k => k = tb ∨ G k ∨ Fs k) v d) (hl : t.length + d.length ≤ LIM) (hcs : cs ≤ LIM) :
    Calls Tryz.prog 276 #[.pointer (some ⟨tb, 0, none⟩), v] w fun e w' => e = .returned (.tuple #[]) ∧ ∃ G', TwAt S tb w' G' Fs inner (t ++ d) twd fg pos (cs + d.length) cw ht nl c0 ∧ (∀ k, G' k → G k ∨ w.heap.size ≤ k) ∧ Upd (fun k => k = tb ∨ G k) w w' := by
  obtain ⟨vb, vl, aw, cap, hb, hr, hvb, hln, hI, hFt, hGt, hGF, hGl, hfg⟩ := h
  obtain ⟨ao, c, rfl⟩ : ∃ ao c, v = .slice ao d.length c := by
    rcases hv with ⟨rfl, rfl⟩ | ⟨a, c, rfl, _⟩
    · exact ⟨none, 0, rfl⟩
    · exact ⟨some a, c, rfl⟩
  have hLIM : LIM = 1099511627776 := rfl
  obtain ⟨v', w2, hr2, ho, hg, hf⟩ := append_row hr hv hl
  obtain ⟨ao2, cap2, rfl⟩ : ∃ ao c, v' = .slice ao (t.length + d.length) c := by rw [← List.length_append]; exact ho.form
  have hbt : vb.ownBlock ≠ some tb := fun e => hGt (hvb tb e)
  have hb2 : w2.heap[tb]? = some (.cells (twCells S twd fg vb pos cs cw ht vl (.slice aw 0 cap)) 111 (0, 0)) := (hg.block tb (heap_lt hb) fun e => hbt e.symm).trans hb
  have c13 : w.cell? ⟨tb, 13, none⟩ = some vb := cell_at hb 13
  have d13 : w2.cell? ⟨tb, 13, none⟩ = some vb := cell_at hb2 13
  have d15 : w2.cell? ⟨tb, 15, none⟩ = some (.int .i64 (cs : Int)) := cell_at hb2 15
  have e13 : w2.frozen? ⟨tb, 13, none⟩ = false := frozen_at hb2 13
  have e15 : w2.frozen? ⟨tb, 15, none⟩ = false := frozen_at hb2 15
  have hcsI : (cs : Int) ≤ 1099511627776 := by omega
  have hdI : (d.length : Int) ≤ 1099511627776 := by omega
  have hu2 : Upd (fun k => k = tb ∨ G k) w w2 := (Upd.refl (fun k => k = tb ∨ G k) w).grown hg fun k hk => .inl (.inr (hvb k hk))
  have hu3 : Upd (fun k => k = tb ∨ G k) w ((w2.setCell ⟨tb, 13, none⟩ (.slice ao2 (t.length + d.length) cap2)).setCell ⟨tb, 15, none⟩ (.int .i64 ((cs : Int) + (d.length : Int)))) := (hu2.setCell (p := ⟨tb, 13, none⟩) (.inl (.inl rfl)) _).setCell (p := ⟨tb, 15, none⟩) (.inl (.inl rfl)) _
  have hul : Upd (fun k => k = tb ∨ vb.ownBlock = some k) w ((w2.setCell ⟨tb, 13, none⟩ (.slice ao2 (t.length + d.length) cap2)).setCell ⟨tb, 15, none⟩ (.int .i64 ((cs : Int) + (d.length : Int)))) :=
    (((Upd.refl (fun k => k = tb ∨ vb.ownBlock = some k) w).grown hg fun k hk => .inl (.inr hk)).setCell (p := ⟨tb, 13, none⟩) (.inl (.inl rfl)) _).setCell (p := ⟨tb, 15, none⟩) (.inl (.inl rfl)) _
  have HEnd : RowKit.Hid (∃ G', TwAt S tb ((w2.setCell ⟨tb, 13, none⟩ (.slice ao2 (t.length + d.length) cap2)).setCell ⟨tb, 15, none⟩ (.int .i64 ((cs : Int) + (d.length : Int)))) G' Fs inner (t ++ d) twd fg pos (cs + d.length) cw ht nl c0 ∧ (∀ k, G' k → G k ∨ w.heap.size ≤ k) ∧
      Upd (fun k => k = tb ∨ G k) w ((w2.setCell ⟨tb, 13, none⟩ (.slice ao2 (t.length + d.length) cap2)).setCell ⟨tb, 15, none⟩ (.int .i64 ((cs : Int) + (d.length : Int))))) := by
    refine ⟨fun k => G k ∨ (Value.slice ao2 (t.length + d.length) cap2).ownBlock = some k, ⟨_, vl, aw, cap, ?_, ?_, fun k hk => .inr hk, ?_, hs.stable hI hu3 ?_, hFt, ?_, ?_, ?_, hfg⟩, ?_, hu3⟩
    · refine (heap_setCell_at _ (heap_setCell_at _ hb2)).trans ?_
      simp [twCells]
    · exact ho.stable (F := fun k => k = tb) (((Upd.refl (fun k => k = tb) w2).setCell (p := ⟨tb, 13, none⟩) (.inl rfl) _).setCell (p := ⟨tb, 15, none⟩) (.inl rfl) _) fun k hk e => by
        subst e
        rcases hf _ hk with h | h
        · exact hbt h
        · exact absurd (heap_lt hb) (by omega)
    · refine hln.stable hul (fun k hk => .inl hk) fun k cur t' hk hc => ?_
      rcases hk with rfl | hk
      · have := cells_type hb hc
        subst this
        exact ⟨by decide, by decide⟩
      · obtain ⟨c', hc'⟩ := hr.block hk
        have := cells_type hc' hc
        subst this
        exact ⟨by decide, by decide⟩
    · rintro k hk (rfl | h)
      · exact hFt hk
      · exact hGF k h hk
    · rintro (h | h)
      · exact hGt h
      · rcases hf _ h with h | h
        · exact hbt h
        · exact absurd (heap_lt hb) (by omega)
    · rintro k (h | h) hk
      · exact hGF k h hk
      · rcases hf _ h with h | h
        · exact hGF k (hvb k h) hk
        · exact absurd (hs.lt hI k hk) (by omega)
    · rintro k (h | h)
      · exact Nat.lt_of_lt_of_le (hGl k h) hu3.size
      · have := (ho.lt k h).2
        simpa using this
    · rintro k (h | h)
      · exact .inl h
      · rcases hf _ h with h | h
        · exact .inl (hvb k h)
        · exact .inr h
  have HR := Lib.hid hr2
  clear hr2 hb hr hvb hln hI hGF hGl hv hg hf ho hb2 hu2 hu3 hul hbt hFt hGt hfg hl hcs
  go_enter Tryz.func276, Tryz.ntmps276
  go_wp2_with (at_builtin; refine wpList_append_run rfl _ _ _ rfl rfl rfl HR.out ?_)
  go_end0
  exact ⟨rfl, HEnd.out⟩
end Go.Proofs.YtmopcbjmeepinaaGreatFmtRRR
