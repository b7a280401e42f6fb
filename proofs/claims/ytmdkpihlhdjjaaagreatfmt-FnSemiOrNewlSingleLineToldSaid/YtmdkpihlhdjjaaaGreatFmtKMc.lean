/-
  tabwriter.Writer over a sink, for text without tabs and escapes: its state; write0; newline; append.
  tabwriter.Writer: append.
  tabwriter.Writer: terminateCell, at the first line with no cell yet.
  tabwriter.Writer: addLine.
-/
import Derived.Test.YtmdkpihlhdjjaaaGreatFmtKMaX
import Derived.Test.YtmdkpihlhdjjaaaGreatFmtKMbX
import Derived.Deep.LoopGhost
import Derived.Deep.RegionLaw
namespace Go.Proofs.YtmdkpihlhdjjaaaGreatFmt
open Go.RowKit

/-- The cells of the Writer's struct. -/
def twCells (S : Sink) (twd fg : Nat) (vb : Value) (pos cs : Nat) (cw : Int) (ht : Bool) (vl vw : Value) : Array Value :=
  #[.iface S.ty (.pointer (some S.ptr)), .int .i64 0, .int .i64 (twd : Int), .int .i64 1, .int .u8 32, .int .u8 32, .int .u8 32, .int .u8 32, .int .u8 32, .int .u8 32, .int .u8 32, .int .u8 32,
    .int .u64 (fg : Int), vb, .int .i64 (pos : Int), .int .i64 (cs : Int), .int .i64 cw, .bool ht, .int .u8 0, vl, vw]

/-- A cell of a line. -/
structure TCell where
  n : Nat
  w : Int
  h : Bool
def TCell.vs (c : TCell) : List Value := [.int .i64 (c.n : Int), .int .i64 c.w, .bool c.h]

/-- The row of lines: the first one is c0 (none or one cell), the others are slices of whatever; nl of them are in use, and the second one, if it is, is empty. -/
def TwLines (w : World) (G : Nat → Prop) (vl : Value) (nl : Nat) (c0 : List TCell) : Prop :=
  ∃ (L cap : Nat) (cur : Array Value) (v0 : Value), vl = .slice (some ⟨L, 0, none⟩) nl cap ∧ w.heap[L]? = some (.cells cur 337 (0, 0)) ∧ cur.size = cap ∧ nl ≤ cap ∧ 1 ≤ cap ∧ cap ≤ maxLen ∧ G L ∧ cur[0]? = some v0 ∧
    w.ownsRow 0 78 3 v0 c0.length (c0.flatMap TCell.vs) ∧ (∀ k, v0.ownBlock = some k → G k) ∧ (∀ j v, 1 ≤ j → cur[j]? = some v → ∃ ao n c, v = .slice ao n c ∧ n ≤ c ∧ c ≤ maxLen) ∧ (2 ≤ nl → ∃ ao c, cur[1]? = some (.slice ao 0 c))

/-- The state of the Writer: G holds its rows; inner has come to the sink, t is in the buffer. -/
def TwAt (S : Sink) (tb : Nat) (w : World) (G Fs : Nat → Prop) (inner t : List UInt8) (twd fg pos cs : Nat) (cw : Int) (ht : Bool) (nl : Nat) (c0 : List TCell) : Prop :=
  ∃ vb vl aw cap, w.heap[tb]? = some (.cells (twCells S twd fg vb pos cs cw ht vl (.slice aw 0 cap)) 82 (0, 0)) ∧ Row w vb t ∧ (∀ k, vb.ownBlock = some k → G k) ∧ TwLines w G vl nl c0 ∧
    S.I w Fs inner ∧ ¬ Fs tb ∧ ¬ G tb ∧ (∀ k, G k → ¬ Fs k) ∧ (∀ k, G k → k < w.heap.size) ∧ (fg = 10 ∨ fg = 26)

theorem tw_newline (w : World) : Calls Tryz.prog 203 #[] w fun e w' => e = .returned (.slice (some ⟨w.heap.size, 0, none⟩) 1 1) ∧ w' = w.alloc (.cells #[.int .u8 10] 5) := by
  go_enter Tryz.func203, Tryz.ntmps203
  go_wp2
  go_ret
  exact ⟨rfl, rfl⟩

set_option maxRecDepth 100000 in
set_option maxHeartbeats 1000000 in
theorem tw_write0 {S : Sink} (hs : S.Law Tryz.prog 561) {tb : Nat} {w : World} {Fs : Nat → Prop} {inner d : List UInt8} {v : Value} (h0 : w.cell? ⟨tb, 0, none⟩ = some (.iface S.ty (.pointer (some S.ptr)))) (hI : S.I w Fs inner) (hv : SliceRd w Fs v d)
    (hk : ∀ c ∈ d, S.okb c = true) (hl : inner.length + d.length ≤ LIM) :
    Calls Tryz.prog 200 #[.pointer (some ⟨tb, 0, none⟩), v] w fun e w' => e = .returned (.tuple #[]) ∧ ∃ F', S.I w' F' (inner ++ d) ∧ (∀ k, F' k → Fs k ∨ w.heap.size ≤ k) ∧ Upd Fs w w' := by
  obtain ⟨ao, c, rfl⟩ : ∃ ao c, v = .slice ao d.length c := by
    rcases hv with ⟨rfl, rfl⟩ | ⟨a, c, rfl, _⟩
    · exact ⟨none, 0, rfl⟩
    · exact ⟨some a, c, rfl⟩
  have hm := hs.meth
  have hah := hs.ahead
  have he := hs.enters
  obtain ⟨Q1, HQ1, HW⟩ := callsVar (hs.write hI hv hk hl)
  clear hI hv hk
  go_enter Tryz.func200, Tryz.ntmps200
  go_wp2_with (refine HW.out.mono ?_)
  rintro e w1 hq
  obtain ⟨rfl, hP⟩ := HQ1.out e w1 hq
  clear hq
  have HP := Lib.hid hP; clear hP
  go_wp2
  go_end0
  exact ⟨rfl, HP.out⟩
end Go.Proofs.YtmdkpihlhdjjaaaGreatFmt

namespace Go.Proofs.YtmdkpihlhdjjaaaGreatFmt
open Go.RowKit

theorem cells_type {w : World} {k : Nat} {a c : Array Value} {t u : TypeId} {f g : Nat × Nat} (h : w.heap[k]? = some (.cells a t f)) (h' : w.heap[k]? = some (.cells c u g)) : t = u := by
  rw [h] at h'
  injection h' with h1
  injection h1

theorem Row.block {w : World} {v : Value} {l : List UInt8} (h : Row w v l) {k : Nat} (hk : v.ownBlock = some k) : ∃ cur, w.heap[k]? = some (.cells cur 5 (0, 0)) := by
  rcases h.2 with ⟨rfl, _⟩ | ⟨g, cap, cur, rfl, _, hg, _⟩
  · cases hk
  · obtain rfl := Option.some.inj hk
    exact ⟨cur, hg⟩

theorem own_block {w : World} {B : Nat} {e : TypeId} {sz : Nat} {v : Value} {n : Nat} {xs : List Value} (h : w.ownsRow B e sz v n xs) {k : Nat} (hk : v.ownBlock = some k) : ∃ cur, w.heap[k]? = some (.cells cur e (0, 0)) := by
  rcases h.2 with ⟨rfl, _⟩ | ⟨g, cap, cur, rfl, _, hg, _⟩
  · cases hk
  · obtain rfl := Option.some.inj hk
    exact ⟨cur, hg⟩

theorem own_stable {w w' : World} {B : Nat} {e : TypeId} {sz : Nat} {v : Value} {n : Nat} {xs : List Value} {F : Nat → Prop} (h : w.ownsRow B e sz v n xs) (hu : Upd F w w') (hn : ∀ k, v.ownBlock = some k → ¬ F k) : w'.ownsRow B e sz v n xs := by
  refine ⟨h.1, ?_⟩
  rcases h.2 with h | ⟨g, cap, cur, rfl, h1, h2, h3⟩
  · exact .inl h
  · exact .inr ⟨g, cap, cur, rfl, h1, hu.heap h2 (hn g rfl), h3⟩

/-- The lines are not touched by a change of blocks of other types. -/
theorem TwLines.stable {w w' : World} {G G' F : Nat → Prop} {vl : Value} {nl : Nat} {c0 : List TCell} (h : TwLines w G vl nl c0) (hu : Upd F w w') (hG : ∀ k, G k → G' k)
    (hF : ∀ k cur t, F k → w.heap[k]? = some (.cells cur t (0, 0)) → t ≠ 337 ∧ t ≠ 78) : TwLines w' G' vl nl c0 := by
  obtain ⟨L, cap, cur, v0, h1, h2, h3, h4, h5, h6, h7, h8, h9, h10, h11, h12⟩ := h
  refine ⟨L, cap, cur, v0, h1, hu.heap h2 (fun e => (hF L _ _ e h2).1 rfl), h3, h4, h5, h6, hG _ h7, h8, own_stable h9 hu (fun k hk e => ?_), fun k hk => hG _ (h10 k hk), h11, h12⟩
  obtain ⟨c, hc⟩ := own_block h9 hk
  exact (hF k _ _ e hc).2 rfl

/-- The state after a step that leaves the sink alone. -/
theorem TwAt.next {P : Program} {fuel : Nat} {S : Sink} (hs : S.Law P fuel) {tb : Nat} {w w' : World} {G G' Fs : Nat → Prop} {inner t : List UInt8} {twd fg pos cs : Nat} {cw : Int} {ht : Bool} {nl : Nat} {c0 : List TCell} {vb vl : Value} {aw : Option Addr} {cap : Nat}
    (hI : S.I w Fs inner) (hFt : ¬ Fs tb) (hGt : ¬ G tb) (hGF : ∀ k, G k → ¬ Fs k) (hfg : fg = 10 ∨ fg = 26) (ht' : tb < w.heap.size)
    (hu : Upd (fun k => k = tb ∨ G k) w w') (hG' : ∀ k, G' k → (G k ∨ w.heap.size ≤ k) ∧ k < w'.heap.size)
    (hb : w'.heap[tb]? = some (.cells (twCells S twd fg vb pos cs cw ht vl (.slice aw 0 cap)) 82 (0, 0))) (hr : Row w' vb t) (hvb : ∀ k, vb.ownBlock = some k → G' k) (hl : TwLines w' G' vl nl c0) :
    TwAt S tb w' G' Fs inner t twd fg pos cs cw ht nl c0 := by
  refine ⟨vb, vl, aw, cap, hb, hr, hvb, hl, hs.stable hI hu ?_, hFt, ?_, ?_, fun k hk => (hG' k hk).2, hfg⟩
  · rintro k hk (rfl | h)
    · exact hFt hk
    · exact hGF k h hk
  · intro h
    rcases (hG' tb h).1 with h | h
    · exact hGt h
    · omega
  · intro k h hk
    rcases (hG' k h).1 with h | h
    · exact hGF k h hk
    · exact absurd (hs.lt hI k hk) (by omega)

set_option maxRecDepth 100000 in
set_option maxHeartbeats 1000000 in
theorem tw_append {S : Sink} (hs : S.Law Tryz.prog 561) {tb : Nat} {w : World} {G Fs : Nat → Prop} {inner t d : List UInt8} {twd fg pos cs : Nat} {cw : Int} {ht : Bool} {nl : Nat} {c0 : List TCell} {v : Value}
    (h : TwAt S tb w G Fs inner t twd fg pos cs cw ht nl c0) (hv : SliceRd w (fun k => k = tb ∨ G k ∨ Fs k) v d) (hl : t.length + d.length ≤ LIM) (hcs : cs ≤ LIM) :
    Calls Tryz.prog 247 #[.pointer (some ⟨tb, 0, none⟩), v] w fun e w' => e = .returned (.tuple #[]) ∧ ∃ G', TwAt S tb w' G' Fs inner (t ++ d) twd fg pos (cs + d.length) cw ht nl c0 ∧ (∀ k, G' k → G k ∨ w.heap.size ≤ k) ∧ Upd (fun k => k = tb ∨ G k) w w' := by
  obtain ⟨vb, vl, aw, cap, hb, hr, hvb, hln, hI, hFt, hGt, hGF, hGl, hfg⟩ := h
  obtain ⟨ao, c, rfl⟩ : ∃ ao c, v = .slice ao d.length c := by
    rcases hv with ⟨rfl, rfl⟩ | ⟨a, c, rfl, _⟩
    · exact ⟨none, 0, rfl⟩
    · exact ⟨some a, c, rfl⟩
  have hLIM : LIM = 1099511627776 := rfl
  obtain ⟨v', w2, hr2, ho, hg, hf⟩ := append_row hr hv hl
  obtain ⟨ao2, cap2, rfl⟩ : ∃ ao c, v' = .slice ao (t.length + d.length) c := by rw [← List.length_append]; exact ho.form
  have hbt : vb.ownBlock ≠ some tb := fun e => hGt (hvb tb e)
  have hb2 : w2.heap[tb]? = some (.cells (twCells S twd fg vb pos cs cw ht vl (.slice aw 0 cap)) 82 (0, 0)) := (hg.block tb (heap_lt hb) fun e => hbt e.symm).trans hb
  have c13 : w.cell? ⟨tb, 13, none⟩ = some vb := cell_at hb 13
  have d13 : w2.cell? ⟨tb, 13, none⟩ = some vb := cell_at hb2 13
  have d15 : w2.cell? ⟨tb, 15, none⟩ = some (.int .i64 (cs : Int)) := cell_at hb2 15
  have e13 : w2.frozen? ⟨tb, 13, none⟩ = false := frozen_at hb2 13
  have e15 : w2.frozen? ⟨tb, 15, none⟩ = false := frozen_at hb2 15
  have hcsI : (cs : Int) ≤ 1099511627776 := by omega
  have hdI : (d.length : Int) ≤ 1099511627776 := by omega
  have hu2 : Upd (fun k => k = tb ∨ G k) w w2 := (Upd.refl (fun k => k = tb ∨ G k) w).grown hg fun k hk => .inl (.inr (hvb k hk))
  have hu3 : Upd (fun k => k = tb ∨ G k) w ((w2.setCell ⟨tb, 13, none⟩ (.slice ao2 (t.length + d.length) cap2)).setCell ⟨tb, 15, none⟩ (.int .i64 ((cs : Int) + (d.length : Int)))) := (hu2.setCell (p := ⟨tb, 13, none⟩) (.inl (.inl rfl)) _).setCell (p := ⟨tb, 15, none⟩) (.inl (.inl rfl)) _
  have hul : Upd (fun k => k = tb ∨ vb.ownBlock = some k) w ((w2.setCell ⟨tb, 13, none⟩ (.slice ao2 (t.length + d.length) cap2)).setCell ⟨tb, 15, none⟩ (.int .i64 ((cs : Int) + (d.length : Int)))) :=
    (((Upd.refl (fun k => k = tb ∨ vb.ownBlock = some k) w).grown hg fun k hk => .inl (.inr hk)).setCell (p := ⟨tb, 13, none⟩) (.inl (.inl rfl)) _).setCell (p := ⟨tb, 15, none⟩) (.inl (.inl rfl)) _
  have HEnd : RowKit.Hid (∃ G', TwAt S tb ((w2.setCell ⟨tb, 13, none⟩ (.slice ao2 (t.length + d.length) cap2)).setCell ⟨tb, 15, none⟩ (.int .i64 ((cs : Int) + (d.length : Int)))) G' Fs inner (t ++ d) twd fg pos (cs + d.length) cw ht nl c0 ∧ (∀ k, G' k → G k ∨ w.heap.size ≤ k) ∧
      Upd (fun k => k = tb ∨ G k) w ((w2.setCell ⟨tb, 13, none⟩ (.slice ao2 (t.length + d.length) cap2)).setCell ⟨tb, 15, none⟩ (.int .i64 ((cs : Int) + (d.length : Int))))) := by
    refine ⟨fun k => G k ∨ (Value.slice ao2 (t.length + d.length) cap2).ownBlock = some k, ⟨_, vl, aw, cap, ?_, ?_, fun k hk => .inr hk, ?_, hs.stable hI hu3 ?_, hFt, ?_, ?_, ?_, hfg⟩, ?_, hu3⟩
    · refine (heap_setCell_at _ (heap_setCell_at _ hb2)).trans ?_
      simp [twCells]
    · exact ho.stable (F := fun k => k = tb) (((Upd.refl (fun k => k = tb) w2).setCell (p := ⟨tb, 13, none⟩) (.inl rfl) _).setCell (p := ⟨tb, 15, none⟩) (.inl rfl) _) fun k hk e => by
        subst e
        rcases hf _ hk with h | h
        · exact hbt h
        · exact absurd (heap_lt hb) (by omega)
    · refine hln.stable hul (fun k hk => .inl hk) fun k cur t' hk hc => ?_
      rcases hk with rfl | hk
      · have := cells_type hb hc
        subst this
        exact ⟨by decide, by decide⟩
      · obtain ⟨c', hc'⟩ := hr.block hk
        have := cells_type hc' hc
        subst this
        exact ⟨by decide, by decide⟩
    · rintro k hk (rfl | h)
      · exact hFt hk
      · exact hGF k h hk
    · rintro (h | h)
      · exact hGt h
      · rcases hf _ h with h | h
        · exact hbt h
        · exact absurd (heap_lt hb) (by omega)
    · rintro k (h | h) hk
      · exact hGF k h hk
      · rcases hf _ h with h | h
        · exact hGF k (hvb k h) hk
        · exact absurd (hs.lt hI k hk) (by omega)
    · rintro k (h | h)
      · exact Nat.lt_of_lt_of_le (hGl k h) hu3.size
      · have := (ho.lt k h).2
        simpa using this
    · rintro k (h | h)
      · exact .inl h
      · rcases hf _ h with h | h
        · exact .inl (hvb k h)
        · exact .inr h
  have HR := Lib.hid hr2
  clear hr2 hb hr hvb hln hI hGF hGl hv hg hf ho hb2 hu2 hu3 hul hbt hFt hGt hfg hl hcs
  go_enter Tryz.func247, Tryz.ntmps247
  go_wp2_with (at_builtin; refine wpList_append_run rfl _ _ _ rfl rfl rfl HR.out ?_)
  go_end0
  exact ⟨rfl, HEnd.out⟩
end Go.Proofs.YtmdkpihlhdjjaaaGreatFmt

namespace Go.Proofs.YtmdkpihlhdjjaaaGreatFmt
open Go.RowKit

set_option maxRecDepth 100000 in
set_option maxHeartbeats 2000000 in
theorem tw_terminate {S : Sink} (hs : S.Law Tryz.prog 561) {tb : Nat} {w : World} {G Fs : Nat → Prop} {inner t : List UInt8} {twd fg pos cs : Nat} {cw : Int} {ht : Bool}
    (h : TwAt S tb w G Fs inner t twd fg pos cs cw ht 1 []) :
    Calls Tryz.prog 176 #[.pointer (some ⟨tb, 0, none⟩), .bool false] w fun e w' => e = .returned (.int .i64 1) ∧ ∃ G', TwAt S tb w' G' Fs inner t twd fg pos 0 0 false 1 [⟨cs, cw, false⟩] ∧ (∀ k, G' k → G k ∨ w.heap.size ≤ k) ∧ Upd (fun k => k = tb ∨ G k) w w' := by
  obtain ⟨vb, vl, aw, cap, hb, hr, hvb, ⟨L, capL, cur, v0, rfl, hL, hcs, hnc, hc1, hcm, hGL, h0, ho0, hG0, hrest⟩, hI, hFt, hGt, hGF, hGl, hfg⟩ := h
  have htL : ¬ tb = L := fun e => hGt (e ▸ hGL)
  have c15 : w.cell? ⟨tb, 15, none⟩ = some (.int .i64 (cs : Int)) := cell_at hb 15
  have c16 : w.cell? ⟨tb, 16, none⟩ = some (.int .i64 cw) := cell_at hb 16
  have c17 : w.cell? ⟨tb, 17, none⟩ = some (.bool ht) := cell_at hb 17
  have c19 : w.cell? ⟨tb, 19, none⟩ = some (.slice (some ⟨L, 0, none⟩) 1 capL) := cell_at hb 19
  have f15 : w.frozen? ⟨tb, 15, none⟩ = false := frozen_at hb 15
  have f16 : w.frozen? ⟨tb, 16, none⟩ = false := frozen_at hb 16
  have f17 : w.frozen? ⟨tb, 17, none⟩ = false := frozen_at hb 17
  have cL0 : w.cell? ⟨L, 0, none⟩ = some v0 := by rw [cell_at hL]; exact h0
  have fL0 : w.frozen? ⟨L, 0, none⟩ = false := frozen_at hL 0
  obtain ⟨a0, p0, hv0⟩ : ∃ ao c, v0 = .slice ao 0 c := by
    rcases ho0.2 with ⟨h1, h2⟩ | ⟨g, cap, cur, h1, _, _, h2, _⟩
    · exact ⟨none, 0, h1⟩
    · exact ⟨_, _, h1⟩
  subst hv0
  have hLt : ¬ L = tb := fun e => htL e.symm
  -- the world in which the cell is appended
  have hW1u : Upd (fun k => k = tb) w (((w.setCell ⟨tb, 17, none⟩ (.bool false)).alloc (.cells #[.int .i64 (cs : Int), .int .i64 cw, .bool false] 78)).drew.drew) :=
    ((((Upd.refl (fun k => k = tb) w).setCell (p := ⟨tb, 17, none⟩) (.inl rfl) _).alloc _).drew).drew
  have hNew : (((w.setCell ⟨tb, 17, none⟩ (.bool false)).alloc (.cells #[.int .i64 (cs : Int), .int .i64 cw, .bool false] 78)).drew.drew).heap[w.heap.size]? = some (.cells #[.int .i64 (cs : Int), .int .i64 cw, .bool false] 78 (0, 0)) := by
    have h := heap_alloc_new (w.setCell ⟨tb, 17, none⟩ (.bool false)) (.cells #[.int .i64 (cs : Int), .int .i64 cw, .bool false] 78)
    rw [World.size_setCell] at h
    exact h
  have hb1 : (((w.setCell ⟨tb, 17, none⟩ (.bool false)).alloc (.cells #[.int .i64 (cs : Int), .int .i64 cw, .bool false] 78)).drew.drew).heap[tb]? = some (.cells (twCells S twd fg vb pos cs cw false (.slice (some ⟨L, 0, none⟩) 1 capL) (.slice aw 0 cap)) 82 (0, 0)) := by
    refine (Below.heap_alloc _ _ _ (by simpa using heap_lt hb)).trans ((heap_setCell_at _ hb).trans ?_)
    simp [twCells]
  obtain ⟨i, z, hi, hz, hsz, hby, hzs⟩ : ∃ i z, Tryz.prog.info? 78 = some i ∧ i.zero = some z ∧ i.size = 3 ∧ i.bytes = 24 ∧ z.cells.size = 3 := ⟨_, _, rfl, rfl, rfl, rfl, rfl⟩
  obtain ⟨v', w2, hr2, ho2, hg2, hf2⟩ := append_own (P := Tryz.prog) (((w.setCell ⟨tb, 17, none⟩ (.bool false)).alloc (.cells #[.int .i64 (cs : Int), .int .i64 cw, .bool false] 78)).drew.drew) 337 337 78 i z 3 24
    Tryz.underlying337 hi hz hsz hby hzs (by decide) (v := .slice a0 0 p0) (n := 0) (xs := []) (own_stable ho0 hW1u fun k hk e => hGt (e ▸ hG0 k hk)) ⟨w.heap.size, 0, none⟩ 1 1 [.int .i64 (cs : Int), .int .i64 cw, .bool false] rfl
    (fun j u hj => by rw [Addr.add_lit, cell_at hNew, Nat.zero_add]; simpa using hj) (by simp [Value.oneCell']) (by decide) (by decide)
  obtain ⟨ao2, cap2, rfl⟩ : ∃ ao c, v' = .slice ao 1 c := by
    rcases ho2.2 with ⟨h1, h2⟩ | ⟨g, cap, cur, h1, _, _, h2, _⟩
    · exact absurd h2 (by decide)
    · exact ⟨_, _, h1⟩
  have hn0 : ∀ k, (Value.slice a0 0 p0).ownBlock = some k → k ≠ tb ∧ k ≠ L ∧ k < w.heap.size ∧ G k := fun k hk => by
    refine ⟨fun e => hGt (e ▸ hG0 k hk), fun e => ?_, hGl k (hG0 k hk), hG0 k hk⟩
    subst e
    obtain ⟨c, hc⟩ := own_block ho0 hk
    exact absurd (cells_type hc hL) (by decide)
  have hL1 : (((w.setCell ⟨tb, 17, none⟩ (.bool false)).alloc (.cells #[.int .i64 (cs : Int), .int .i64 cw, .bool false] 78)).drew.drew).heap[L]? = some (.cells cur 337 (0, 0)) := hW1u.heap hL hLt
  have hb2 : w2.heap[tb]? = some (.cells (twCells S twd fg vb pos cs cw false (.slice (some ⟨L, 0, none⟩) 1 capL) (.slice aw 0 cap)) 82 (0, 0)) := (hg2.block tb (heap_lt hb1) fun e => (hn0 tb e.symm).1 rfl).trans hb1
  have hL2 : w2.heap[L]? = some (.cells cur 337 (0, 0)) := (hg2.block L (heap_lt hL1) fun e => (hn0 L e.symm).2.1 rfl).trans hL1
  have cL1 : (((w.setCell ⟨tb, 17, none⟩ (.bool false)).alloc (.cells #[.int .i64 (cs : Int), .int .i64 cw, .bool false] 78)).drew.drew).cell? ⟨L, 0, none⟩ = some (.slice a0 0 p0) := by rw [cell_at hL1]; exact h0
  have cL2 : w2.cell? ⟨L, 0, none⟩ = some (.slice a0 0 p0) := by rw [cell_at hL2]; exact h0
  have fL2 : w2.frozen? ⟨L, 0, none⟩ = false := frozen_at hL2 0
  have d15 : w2.cell? ⟨tb, 15, none⟩ = some (.int .i64 (cs : Int)) := cell_at hb2 15
  have d16 : w2.cell? ⟨tb, 16, none⟩ = some (.int .i64 cw) := cell_at hb2 16
  have d17 : w2.cell? ⟨tb, 17, none⟩ = some (.bool false) := cell_at hb2 17
  have e15 : w2.frozen? ⟨tb, 15, none⟩ = false := frozen_at hb2 15
  have e16 : w2.frozen? ⟨tb, 16, none⟩ = false := frozen_at hb2 16
  have e17 : w2.frozen? ⟨tb, 17, none⟩ = false := frozen_at hb2 17
  have b15 : (((w.setCell ⟨tb, 17, none⟩ (.bool false)).alloc (.cells #[.int .i64 (cs : Int), .int .i64 cw, .bool false] 78)).drew.drew).cell? ⟨tb, 15, none⟩ = some (.int .i64 (cs : Int)) := cell_at hb1 15
  have b16 : (((w.setCell ⟨tb, 17, none⟩ (.bool false)).alloc (.cells #[.int .i64 (cs : Int), .int .i64 cw, .bool false] 78)).drew.drew).cell? ⟨tb, 16, none⟩ = some (.int .i64 cw) := cell_at hb1 16
  have b17 : (((w.setCell ⟨tb, 17, none⟩ (.bool false)).alloc (.cells #[.int .i64 (cs : Int), .int .i64 cw, .bool false] 78)).drew.drew).cell? ⟨tb, 17, none⟩ = some (.bool false) := cell_at hb1 17
  have hend : ∃ G', TwAt S tb ((((w2.setCell ⟨L, 0, none⟩ (.slice ao2 1 cap2)).setCell ⟨tb, 15, none⟩ (.int .i64 0)).setCell ⟨tb, 16, none⟩ (.int .i64 0)).setCell ⟨tb, 17, none⟩ (.bool false)) G' Fs inner t twd fg pos 0 0 false 1 [⟨cs, cw, false⟩] ∧ (∀ k, G' k → G k ∨ w.heap.size ≤ k) ∧ Upd (fun k => k = tb ∨ G k) w ((((w2.setCell ⟨L, 0, none⟩ (.slice ao2 1 cap2)).setCell ⟨tb, 15, none⟩ (.int .i64 0)).setCell ⟨tb, 16, none⟩ (.int .i64 0)).setCell ⟨tb, 17, none⟩ (.bool false)) := by
    have hsz1 : w.heap.size ≤ (((w.setCell ⟨tb, 17, none⟩ (.bool false)).alloc (.cells #[.int .i64 (cs : Int), .int .i64 cw, .bool false] 78)).drew.drew).heap.size := hW1u.size
    have hu3 : Upd (fun k => k = tb ∨ k = L) w2 ((((w2.setCell ⟨L, 0, none⟩ (.slice ao2 1 cap2)).setCell ⟨tb, 15, none⟩ (.int .i64 0)).setCell ⟨tb, 16, none⟩ (.int .i64 0)).setCell ⟨tb, 17, none⟩ (.bool false)) :=
      Upd.setCell (F := fun k => k = tb ∨ k = L) (Upd.setCell (F := fun k => k = tb ∨ k = L) (Upd.setCell (F := fun k => k = tb ∨ k = L) (Upd.setCell (F := fun k => k = tb ∨ k = L) (Upd.refl _ w2) (p := ⟨L, 0, none⟩) (.inl (.inr rfl)) _) (p := ⟨tb, 15, none⟩) (.inl (.inl rfl)) _) (p := ⟨tb, 16, none⟩) (.inl (.inl rfl)) _) (p := ⟨tb, 17, none⟩) (.inl (.inl rfl)) _
    have huA : Upd (fun k => k = tb ∨ (Value.slice a0 0 p0).ownBlock = some k) w w2 := (hW1u.mono fun k hk => .inl hk).grown hg2 fun k hk => .inl (.inr hk)
    have huL : Upd (fun k => k = tb ∨ k = L ∨ (Value.slice a0 0 p0).ownBlock = some k) w ((((w2.setCell ⟨L, 0, none⟩ (.slice ao2 1 cap2)).setCell ⟨tb, 15, none⟩ (.int .i64 0)).setCell ⟨tb, 16, none⟩ (.int .i64 0)).setCell ⟨tb, 17, none⟩ (.bool false)) :=
      (huA.mono fun k hk => hk.imp id fun h => .inr h).trans (hu3.mono fun k hk => hk.imp id fun h => .inl h)
    have hu : Upd (fun k => k = tb ∨ G k) w ((((w2.setCell ⟨L, 0, none⟩ (.slice ao2 1 cap2)).setCell ⟨tb, 15, none⟩ (.int .i64 0)).setCell ⟨tb, 16, none⟩ (.int .i64 0)).setCell ⟨tb, 17, none⟩ (.bool false)) := huL.mono fun k hk => by
      rcases hk with h | h | h
      · exact .inl h
      · subst h; exact .inr hGL
      · exact .inr (hn0 k h).2.2.2
    have hnb : ∀ k, (Value.slice ao2 1 cap2).ownBlock = some k → (G k ∨ w.heap.size ≤ k) ∧ k < w2.heap.size ∧ k ≠ tb ∧ k ≠ L := fun k hk => by
      have h := hf2 k hk
      refine ⟨h.imp (fun h => (hn0 k h).2.2.2) fun h => Nat.le_trans hsz1 h, (ho2.lt k hk).2, ?_, ?_⟩
      · rintro rfl
        rcases h with h | h
        · exact (hn0 _ h).1 rfl
        · have := heap_lt hb; omega
      · rintro rfl
        rcases h with h | h
        · exact (hn0 _ h).2.1 rfl
        · have := heap_lt hL; omega
    have hb3 : ((((w2.setCell ⟨L, 0, none⟩ (.slice ao2 1 cap2)).setCell ⟨tb, 15, none⟩ (.int .i64 0)).setCell ⟨tb, 16, none⟩ (.int .i64 0)).setCell ⟨tb, 17, none⟩ (.bool false)).heap[tb]? = some (.cells (twCells S twd fg vb pos 0 0 false (.slice (some ⟨L, 0, none⟩) 1 capL) (.slice aw 0 cap)) 82 (0, 0)) := by
      refine (heap_setCell_at _ (heap_setCell_at _ (heap_setCell_at _ ((Below.heap_setCell _ _ _ _ htL).trans hb2)))).trans ?_
      simp [twCells]
    have hL3 : ((((w2.setCell ⟨L, 0, none⟩ (.slice ao2 1 cap2)).setCell ⟨tb, 15, none⟩ (.int .i64 0)).setCell ⟨tb, 16, none⟩ (.int .i64 0)).setCell ⟨tb, 17, none⟩ (.bool false)).heap[L]? = some (.cells (cur.setIfInBounds 0 (.slice ao2 1 cap2)) 337 (0, 0)) :=
      (Below.heap_setCell _ _ _ _ hLt).trans ((Below.heap_setCell _ _ _ _ hLt).trans ((Below.heap_setCell _ _ _ _ hLt).trans (heap_setCell_at _ hL2)))
    refine ⟨fun k => G k ∨ (Value.slice ao2 1 cap2).ownBlock = some k, TwAt.next hs (G := G) hI hFt hGt hGF hfg (heap_lt hb) hu (fun k hk => ?_) (aw := aw) (cap := cap) hb3
      (hr.stable huL fun k hk e => ?_) (fun k hk => .inl (hvb k hk)) ⟨L, capL, _, _, rfl, hL3, by simpa using hcs, hnc, hc1, hcm, .inl hGL, ?_, own_stable ho2 hu3 fun k hk e => ?_, fun k hk => .inr hk, fun j v hj hv => ?_, fun h => absurd h (by omega)⟩, fun k hk => ?_, hu⟩
    · rcases hk with hk | hk
      · exact ⟨.inl hk, Nat.lt_of_lt_of_le (hGl k hk) hu.size⟩
      · exact ⟨(hnb k hk).1, Nat.lt_of_lt_of_le (hnb k hk).2.1 hu3.size⟩
    · rcases e with rfl | rfl | e
      · exact hGt (hvb _ hk)
      · obtain ⟨c, hc⟩ := hr.block hk
        exact absurd (cells_type hc hL) (by decide)
      · obtain ⟨c, hc⟩ := hr.block hk
        obtain ⟨c', hc'⟩ := own_block ho0 e
        exact absurd (cells_type hc hc') (by decide)
    · rw [Array.getElem?_setIfInBounds_self, if_pos (by omega)]
    · rcases e with rfl | rfl
      · exact (hnb _ hk).2.2.1 rfl
      · exact (hnb _ hk).2.2.2 rfl
    · rw [Array.getElem?_setIfInBounds_ne (by omega)] at hv
      exact hrest.1 j v hj hv
    · rcases hk with hk | hk
      · exact .inl hk
      · exact (hnb k hk).1
  have HEnd := Lib.hid hend
  have HR2 := Lib.hid hr2
  clear hend hr2 hn0 ho2 hg2 hf2 hb hL hb1 hL1 hb2 hL2 hW1u hi hz hsz hby hzs ho0 hrest hG0 hGL hvb hGt hGF hGl hFt hfg hI hr hcs hnc hc1 hcm hNew h0
  go_enter Tryz.func176, Tryz.ntmps176
  go_wp2_with fail
  go_region
  go_wp2_with fail
  go_region_law (refine step_append_run rfl _ _ _ rfl rfl rfl HR2.out ?_)
  all_goals go_wp2_with fail
  all_goals go_ret
  all_goals exact ⟨rfl, HEnd.out⟩
end Go.Proofs.YtmdkpihlhdjjaaaGreatFmt

namespace Go.Proofs.YtmdkpihlhdjjaaaGreatFmt
open Go.RowKit

theorem own_same {ao : Option Addr} {n m c d : Nat} {k : Nat} (h : (Value.slice ao n c).ownBlock = some k) : (Value.slice ao m d).ownBlock = some k := by
  cases ao <;> exact h

theorem own_trunc {w : World} {B : Nat} {e : TypeId} {sz : Nat} {ao : Option Addr} {n m c : Nat} {xs : List Value} (h : w.ownsRow B e sz (.slice ao n c) m xs) : w.ownsRow B e sz (.slice ao 0 c) 0 [] := by
  refine ⟨by simp, ?_⟩
  rcases h.2 with ⟨h1, _⟩ | ⟨g, cap, cur, h1, h2, h3, h4, h5, h6, h7⟩
  · injection h1 with h1 h2 h3
    subst h1; subst h3
    exact .inl ⟨rfl, rfl⟩
  · injection h1 with h1 h2' h3'
    subst h1; subst h3'
    exact .inr ⟨g, c, cur, rfl, h2, h3, Nat.zero_le _, h5, h6, by simp⟩

set_option maxRecDepth 100000 in
set_option maxHeartbeats 2000000 in
/-- addLine(true) where no line is in use. -/
theorem tw_addLine0 {S : Sink} (hs : S.Law Tryz.prog 561) {tb : Nat} {w : World} {G Fs : Nat → Prop} {inner t : List UInt8} {twd fg pos cs : Nat} {cw : Int} {ht : Bool} {c0 : List TCell}
    (h : TwAt S tb w G Fs inner t twd fg pos cs cw ht 0 c0) :
    Calls Tryz.prog 128 #[.pointer (some ⟨tb, 0, none⟩), .bool true] w fun e w' => e = .returned (.tuple #[]) ∧ TwAt S tb w' G Fs inner t twd fg pos cs cw ht 1 [] ∧ Upd (fun k => k = tb ∨ G k) w w' := by
  obtain ⟨vb, vl, aw, cap, hb, hr, hvb, ⟨L, capL, cur, v0, rfl, hL, hcs, hnc, hc1, hcm, hGL, h0, ho0, hG0, hrest⟩, hI, hFt, hGt, hGF, hGl, hfg⟩ := h
  obtain ⟨a0, n0, p0, hv0, hle0⟩ : ∃ ao n c, v0 = .slice ao n c ∧ n ≤ c := by
    rcases ho0.2 with ⟨h1, h2⟩ | ⟨g, cap, cur, h1, _, _, h2, _⟩
    · exact ⟨none, 0, 0, h1, Nat.le_refl _⟩
    · exact ⟨_, _, _, h1, h2⟩
  subst hv0
  have htL : ¬ tb = L := fun e => hGt (e ▸ hGL)
  have hLt : ¬ L = tb := fun e => htL e.symm
  have c19 : w.cell? ⟨tb, 19, none⟩ = some (.slice (some ⟨L, 0, none⟩) 0 capL) := cell_at hb 19
  have f19 : w.frozen? ⟨tb, 19, none⟩ = false := frozen_at hb 19
  have cL0 : w.cell? ⟨L, 0, none⟩ = some (.slice a0 n0 p0) := by rw [cell_at hL]; exact h0
  have fL0 : w.frozen? ⟨L, 0, none⟩ = false := frozen_at hL 0
  have hc1I : (1 : Int) ≤ (capL : Int) := by omega
  have hend : TwAt S tb ((w.setCell ⟨tb, 19, none⟩ (.slice (some ⟨L, 0, none⟩) 1 capL)).setCell ⟨L, 0, none⟩ (.slice a0 0 p0)).drew G Fs inner t twd fg pos cs cw ht 1 [] ∧
      Upd (fun k => k = tb ∨ G k) w ((w.setCell ⟨tb, 19, none⟩ (.slice (some ⟨L, 0, none⟩) 1 capL)).setCell ⟨L, 0, none⟩ (.slice a0 0 p0)).drew := by
    have hu0 : Upd (fun k => k = tb ∨ k = L) w ((w.setCell ⟨tb, 19, none⟩ (.slice (some ⟨L, 0, none⟩) 1 capL)).setCell ⟨L, 0, none⟩ (.slice a0 0 p0)).drew :=
      (((Upd.refl (fun k => k = tb ∨ k = L) w).setCell (p := ⟨tb, 19, none⟩) (.inl (.inl rfl)) _).setCell (p := ⟨L, 0, none⟩) (.inl (.inr rfl)) _).drew
    have hu1 : Upd (fun k => k = tb ∨ G k) w _ := hu0.mono fun k hk => hk.imp id fun e => by subst e; exact hGL
    have hb1 : ((w.setCell ⟨tb, 19, none⟩ (.slice (some ⟨L, 0, none⟩) 1 capL)).setCell ⟨L, 0, none⟩ (.slice a0 0 p0)).drew.heap[tb]? = some (.cells (twCells S twd fg vb pos cs cw ht (.slice (some ⟨L, 0, none⟩) 1 capL) (.slice aw 0 cap)) 82 (0, 0)) := by
      refine (Below.heap_setCell _ _ _ _ htL).trans ((heap_setCell_at _ hb).trans ?_)
      simp [twCells]
    have hL1 : ((w.setCell ⟨tb, 19, none⟩ (.slice (some ⟨L, 0, none⟩) 1 capL)).setCell ⟨L, 0, none⟩ (.slice a0 0 p0)).drew.heap[L]? = some (.cells (cur.setIfInBounds 0 (.slice a0 0 p0)) 337 (0, 0)) :=
      heap_setCell_at _ ((Below.heap_setCell _ _ _ _ hLt).trans hL)
    refine ⟨TwAt.next hs (G' := G) hI hFt hGt hGF hfg (heap_lt hb) hu1 (fun k hk => ⟨.inl hk, Nat.lt_of_lt_of_le (hGl k hk) hu1.size⟩) (aw := aw) (cap := cap) hb1
      (hr.stable hu0 fun k hk e => ?_) hvb ⟨L, capL, _, _, rfl, hL1, by simpa using hcs, hc1, hc1, hcm, hGL, ?_, own_trunc (own_stable ho0 hu0 fun k hk e => ?_), fun k hk => hG0 k (own_same hk), fun j v hj hv => ?_, fun h => absurd h (by omega)⟩, hu1⟩
    · rcases e with rfl | rfl
      · exact hGt (hvb _ hk)
      · obtain ⟨c, hc⟩ := hr.block hk
        exact absurd (cells_type hc hL) (by decide)
    · rw [Array.getElem?_setIfInBounds_self, if_pos (by omega)]
    · rcases e with rfl | rfl
      · exact hGt (hG0 _ hk)
      · obtain ⟨c, hc⟩ := own_block ho0 hk
        exact absurd (cells_type hc hL) (by decide)
    · rw [Array.getElem?_setIfInBounds_ne (by omega)] at hv
      exact hrest.1 j v hj hv
  have HEnd := Lib.hid hend
  clear hend hb hL
  go_enter Tryz.func128, Tryz.ntmps128
  go_wp2_with fail
  go_region
  go_wp2
  go_end0
  exact ⟨rfl, HEnd.out⟩
end Go.Proofs.YtmdkpihlhdjjaaaGreatFmt
