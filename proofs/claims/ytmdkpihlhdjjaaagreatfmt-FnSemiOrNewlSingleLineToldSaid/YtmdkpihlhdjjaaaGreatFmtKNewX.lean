/-
  The options' makers and NewPrinter.
  n010_39: the other options of a Printer; the law's own sink.
  Many variables made in a row; n010_39: an empty sink, and the comparison of bytes with a string and with bytes.
-/
import Derived.Test.YtmdkpihlhdjjaaaGreatFmtKErrfX
namespace Go.Proofs.YtmdkpihlhdjjaaaGreatFmt
open Go.RowKit

set_option maxRecDepth 100000 in
theorem mk_mi (v : Bool) (w : World) : Calls Tryz.prog 10 #[.bool v] w fun e w' => e = .returned (.func (.func 32) #[] #[.pointer (some ⟨w.heap.size, 0, none⟩)]) ∧ w' = w.alloc (.cells #[.bool v] 4) := by
  go_enter Tryz.func10, Tryz.ntmps10
  go_wp2
  go_ret
  exact ⟨rfl, rfl⟩
set_option maxRecDepth 100000 in
theorem mk_si (v : Bool) (w : World) : Calls Tryz.prog 11 #[.bool v] w fun e w' => e = .returned (.func (.func 33) #[] #[.pointer (some ⟨w.heap.size, 0, none⟩)]) ∧ w' = w.alloc (.cells #[.bool v] 4) := by
  go_enter Tryz.func11, Tryz.ntmps11
  go_wp2
  go_ret
  exact ⟨rfl, rfl⟩
set_option maxRecDepth 100000 in
theorem mk_kp (v : Bool) (w : World) : Calls Tryz.prog 127 #[.bool v] w fun e w' => e = .returned (.func (.func 159) #[] #[.pointer (some ⟨w.heap.size, 0, none⟩)]) ∧ w' = w.alloc (.cells #[.bool v] 4) := by
  go_enter Tryz.func127, Tryz.ntmps127
  go_wp2
  go_ret
  exact ⟨rfl, rfl⟩

/-- An option that has been made: its closure's function, the block of what it captured, and what it does. -/
structure POpt where
  f : FuncId
  box : Nat
  cell : Value
  T : PS → PS
def POpt.val (o : POpt) : Value := .func (.func o.f) #[] #[.pointer (some ⟨o.box, 0, none⟩)]
def POpt.Good (o : POpt) : Prop := OptLaw o.f o.box o.cell o.T ∧ ∀ args w, (callFunc o.f args).run Tryz.prog w = .ok (.enter o.f args) w

/-- A Printer's state before its options. -/
def PS0 : PS := ⟨0, false, 0, false, false, false, false, false, false, false, 0, false, false, false, none, 0, false, 0, 0, 0, none, 0, 0, false, none, 0, .pointer none⟩

theorem take_foldl {α : Type} (T : α → PS → PS) (L : List α) {j : Nat} (hj : j < L.length) (s : PS) : (L.take (j + 1)).foldl (fun s o => T o s) s = T L[j] ((L.take j).foldl (fun s o => T o s) s) := by
  rw [List.take_succ_eq_append_getElem hj, List.foldl_append]
  rfl

theorem new_start {w1 : World} {b g : Nat} (hb : BufRaw b g w1) :
    PrAny (w1.heap.size + 1) b w1.heap.size PS0 ((w1.alloc (.cells (twRawCells .nilIface (.int .i64 0) (.int .i64 0) (.int .i64 0) (fun _ => .int .u8 0) (.int .u64 0) (.slice none 0 0) 0 0 0 false (.slice none 0 0) (.slice none 0 0)) 82)).alloc
      (.cells (PS0.cells (.iface 71 (.pointer (some ⟨b, 0, none⟩))) (.pointer (some ⟨w1.heap.size, 0, none⟩)) (.pointer none)) 92)) (PrOwn (w1.heap.size + 1) b g w1.heap.size fun _ => False) := by
  obtain ⟨e, n, wr, cur, h1, h2, h3, h4⟩ := hb
  have hlb := heap_lt h1
  have hlg := heap_lt h2
  generalize hA : (Obj.cells (twRawCells .nilIface (.int .i64 0) (.int .i64 0) (.int .i64 0) (fun _ => .int .u8 0) (.int .u64 0) (.slice none 0 0) 0 0 0 false (.slice none 0 0) (.slice none 0 0)) 82) = A
  generalize hC : (Obj.cells (PS0.cells (.iface 71 (.pointer (some ⟨b, 0, none⟩))) (.pointer (some ⟨w1.heap.size, 0, none⟩)) (.pointer none)) 92) = C
  have hu : Upd (fun _ => False) w1 ((w1.alloc A).alloc C) := ((Upd.refl _ w1).alloc A).alloc C
  have hp : ((w1.alloc A).alloc C).heap[w1.heap.size + 1]? = some C := by
    have h := heap_alloc_new (w1.alloc A) C
    rw [show (w1.alloc A).heap.size = w1.heap.size + 1 by simp] at h
    exact h
  have ht : ((w1.alloc A).alloc C).heap[w1.heap.size]? = some A := (Below.heap_alloc _ _ _ (by simp)).trans (heap_alloc_new w1 A)
  refine ⟨g, fun _ => False, ⟨by rw [← hC] at hp ⊢; exact hp, ⟨e, n, wr, cur, hu.heap h1 (fun h => h), hu.heap h2 (fun h => h), h3, h4⟩, TwRaw.zero (by rw [ht, ← hA]), Nat.le_refl _, ?_⟩, fun k => Iff.rfl⟩
  refine ⟨?_, ?_, ?_, ?_, ?_, fun h => h, fun h => h, fun h => h⟩ <;> omega

set_option maxRecDepth 100000 in
set_option maxHeartbeats 4000000 in
theorem new_printer (L : List POpt) (hg : ∀ o ∈ L, o.Good) {w : World} {a c : Nat} (hL : L.length ≤ 1000) (hrow : ∀ j o, L[j]? = some o → w.cell? ⟨a, j, none⟩ = some o.val ∧ w.cell? ⟨o.box, 0, none⟩ = some o.cell) :
    Calls Tryz.prog 8 #[.slice (some ⟨a, 0, none⟩) L.length c] w fun e w' => ∃ pb b tb O, e = .returned (.pointer (some ⟨pb, 0, none⟩)) ∧ PrAny pb b tb (L.foldl (fun s o => o.T s) PS0) w' O ∧ (∀ k, O k → w.heap.size ≤ k) ∧ Upd (fun _ => False) w w' := by
  have HNw := Lib.hid (nw_nil w)
  have HR := Lib.hid hrow
  have HG := Lib.hid hg
  have hlI : (L.length : Int) ≤ 1000 := by omega
  clear hrow hg
  go_enter Tryz.func8, Tryz.ntmps8
  go_wp2_with (go_at_call 30; refine HNw.out.mono ?_)
  rintro e w1 ⟨b, g, rfl, hb1, hbl, hgl, hu1⟩
  have HB := Lib.hid (And.intro hb1 (And.intro hbl (And.intro hgl hu1)))
  clear hb1 hbl hgl hu1
  have HStart := Lib.hid (new_start HB.out.1)
  go_wp2_with fail
  go_loopg [13] L.length (fun k v13 wr => ∃ j : Nat, v13 = .int .i64 (j : Int) ∧ j + k = L.length ∧ PrAny (w1.heap.size + 1) b w1.heap.size ((L.take j).foldl (fun s o => o.T s) PS0) wr (PrOwn (w1.heap.size + 1) b g w1.heap.size fun _ => False) ∧ Upd (fun _ => False) w wr)
  case atStart => exact ⟨0, rfl, by omega, HStart.out, (HB.out.2.2.2.alloc _).alloc _⟩
  case round =>
    obtain ⟨j, rfl, hjk, hA, hU⟩ := hrel
    have HJ := Lib.hid hjk; clear hjk
    by_cases hlt : j < L.length
    · have hltI : (j : Int) < (L.length : Int) := by omega
      obtain ⟨hc1, hc2⟩ := HR.out j L[j] (List.getElem?_eq_getElem hlt)
      have hl2 := World.block_lt_of_cell? w _ hc2
      have d1 : wr.cell? ⟨a, j, none⟩ = some (.func (.func L[j].f) #[] #[.pointer (some ⟨L[j].box, 0, none⟩)]) := hU.cell hc1 fun h => h
      have he := (HG.out _ (List.getElem_mem hlt)).2
      have hz := HB.out.2.2.2.size
      obtain ⟨Q, HQ, HC⟩ := callsVar ((HG.out _ (List.getElem_mem hlt)).1 hA (hU.cell hc2 fun h => h) (by
        have h1 := HB.out.2.1
        have h2 := HB.out.2.2.1
        rintro (h | h | h | h | h)
        · have : L[j].box < w.heap.size := hl2
          omega
        · have : L[j].box < w.heap.size := hl2
          omega
        · have : L[j].box < w.heap.size := hl2
          omega
        · have : L[j].box < w.heap.size := hl2
          omega
        · exact h))
      have HU := Lib.hid hU
      clear hc1 hc2 hA hU hl2 hz
      go_wp2_with (refine HC.out.mono ?_)
      rintro e w2 hq
      obtain ⟨rfl, hA2, hU2⟩ := HQ.out e w2 hq
      clear hq
      have HA2 := Lib.hid hA2
      have HU2 := Lib.hid hU2
      clear hA2 hU2
      go_wp2_with fail
      go_roundg (L.length - (j + 1))
      case measure => have := HJ.out; omega
      case rel =>
        refine ⟨j + 1, by go_num, by omega, ?_, ?_⟩
        · rw [take_foldl (fun o s => o.T s) L hlt]
          exact HA2.out
        · exact (HU.out.trans' HU2.out fun k hk => .inr (by subst hk; have := HB.out.2.2.2.size; omega))
    · obtain rfl : j = L.length := by have := HJ.out; omega
      have HA := Lib.hid hA
      have HU := Lib.hid hU
      clear hA hU
      go_wp2_with fail
      go_ret
      have hA := HA.out
      rw [List.take_length] at hA
      refine ⟨_, rfl, b, _, _, hA, fun k hk => ?_, HU.out⟩
      have h0 := HB.out.2.2.2.size
      have h1 := HB.out.2.1
      have h2 := HB.out.2.2.1
      rcases hk with h | h | h | h | h
      · omega
      · omega
      · omega
      · omega
      · exact h.elim
end Go.Proofs.YtmdkpihlhdjjaaaGreatFmt

namespace Go.Proofs.YtmdkpihlhdjjaaaGreatFmt
open Go.RowKit

def optBn (v : Bool) (s : PS) : PS := { s with bnl := v }
def optSw (v : Bool) (s : PS) : PS := { s with swt := v }
def optSr (v : Bool) (s : PS) : PS := { s with spr := v }
def optIn (k : Nat) (s : PS) : PS := { s with k := k }




set_option maxRecDepth 100000 in
set_option maxHeartbeats 1000000 in
theorem in_opt (box : Nat) (v : Nat) : OptLaw 31 box (.int .u64 (v : Int)) (optIn v) := by
  intro pb b tb s w O h hb hO
  have hp := h.pcell
  have c5 : w.cell? ⟨pb, 5, none⟩ = some (.int .u64 (s.k : Int)) := hp.at 5
  have f5 := hp.fr 5
  have HA := Lib.hid h
  clear h hp
  go_enter Tryz.func31, Tryz.ntmps31
  go_wp2
  go_end0
  have hu : Upd (fun k => k = pb) w (w.setCell ⟨pb, 5, none⟩ (.int .u64 (v : Int))) := (Upd.refl (fun k => k = pb) w).setCell (p := ⟨pb, 5, none⟩) (.inl rfl) _
  exact ⟨rfl, HA.out.chg (s' := optIn v s) hu (HA.out.pcell.set rfl) HA.out.lin, hu⟩

set_option maxRecDepth 100000 in
theorem mk_in (v : Nat) (w : World) : Calls Tryz.prog 9 #[.int .u64 (v : Int)] w fun e w' => e = .returned (.func (.func 31) #[] #[.pointer (some ⟨w.heap.size, 0, none⟩)]) ∧ w' = w.alloc (.cells #[.int .u64 (v : Int)] 22) := by
  go_enter Tryz.func9, Tryz.ntmps9
  go_wp2
  go_ret
  exact ⟨rfl, rfl⟩

/-- The law's own sink at block b holds l; the blocks of F are its own and its row's. -/
def zsI (b : Nat) (w : World) (F : Nat → Prop) (l : List UInt8) : Prop :=
  ∃ v, w.heap[b]? = some (.cells #[v] 33 (0, 0)) ∧ Row w v l ∧ v.ownBlock ≠ some b ∧ ∀ k, F k ↔ k = b ∨ v.ownBlock = some k

set_option maxHeartbeats 1000000 in
set_option maxRecDepth 100000 in
theorem zs_write {b : Nat} {w : World} {F : Nat → Prop} {l d : List UInt8} {x : Value} (h : zsI b w F l) (hx : SliceRd w F x d) (hlim : l.length + d.length ≤ LIM) :
    Calls Tryz.prog 233 #[.pointer (some ⟨b, 0, none⟩), x] w fun e w' => e = .returned (.tuple #[.int .i64 (d.length : Int), .nilIface]) ∧ ∃ F', zsI b w' F' (l ++ d) ∧ (∀ k, F' k → F k ∨ w.heap.size ≤ k) ∧ Upd F w w' := by
  obtain ⟨v, hb, hv, hne, hF⟩ := h
  obtain ⟨ao, c, rfl⟩ : ∃ ao c, x = .slice ao d.length c := by
    rcases hx with ⟨rfl, rfl⟩ | ⟨a, c, rfl, _⟩
    · exact ⟨none, 0, rfl⟩
    · exact ⟨some a, c, rfl⟩
  obtain ⟨v', w2, hr, ho, hg, hf⟩ := append_row hv hx hlim
  obtain ⟨ao2, cap2, rfl⟩ : ∃ ao c, v' = .slice ao (l.length + d.length) c := by rw [← List.length_append]; exact ho.form
  have c0 : w.cell? ⟨b, 0, none⟩ = some v := cell_at hb 0
  have hb2 : w2.heap[b]? = some (.cells #[v] 33 (0, 0)) := (hg.block b (heap_lt hb) fun e => hne e.symm).trans hb
  have d0 : w2.cell? ⟨b, 0, none⟩ = some v := cell_at hb2 0
  have f0 : w2.frozen? ⟨b, 0, none⟩ = false := frozen_at hb2 0
  have hbn : (Value.slice ao2 (l.length + d.length) cap2).ownBlock ≠ some b := fun e => by
    rcases hf b e with h1 | h1
    · exact hne h1
    · have := heap_lt hb; omega
  have hu : Upd F w (w2.setCell ⟨b, 0, none⟩ (.slice ao2 (l.length + d.length) cap2)) :=
    ((Upd.refl F w).grown hg fun k hk => .inl ((hF k).2 (.inr hk))).setCell (p := ⟨b, 0, none⟩) (.inl ((hF b).2 (.inl rfl))) _
  have hend : ∃ F', zsI b (w2.setCell ⟨b, 0, none⟩ (.slice ao2 (l.length + d.length) cap2)) F' (l ++ d) ∧ (∀ k, F' k → F k ∨ w.heap.size ≤ k) ∧ Upd F w (w2.setCell ⟨b, 0, none⟩ (.slice ao2 (l.length + d.length) cap2)) := by
    refine ⟨fun k => k = b ∨ (Value.slice ao2 (l.length + d.length) cap2).ownBlock = some k, ⟨_, ?_, ho.stable (F := fun k => k = b) ((Upd.refl (fun k => k = b) w2).setCell (p := ⟨b, 0, none⟩) (.inl rfl) _) (fun k hk e => hbn (by rw [hk, e])), hbn, fun k => Iff.rfl⟩, ?_, hu⟩
    · refine (heap_setCell_at _ hb2).trans ?_
      simp
    · intro k hk
      rcases hk with rfl | hk
      · exact .inl ((hF _).2 (.inl rfl))
      · rcases hf k hk with h1 | h1
        · exact .inl ((hF k).2 (.inr h1))
        · exact .inr h1
  have HEnd := Lib.hid hend
  have HR := Lib.hid hr
  clear hend hr ho hg hf hb hv hne hF hx hb2 hbn hu
  go_enter Tryz.func233, Tryz.ntmps233
  go_wp2_with (at_builtin; refine wpList_append_run rfl _ _ _ rfl rfl rfl HR.out ?_)
  go_ret2
  exact ⟨rfl, HEnd.out⟩

abbrev zsS (b : Nat) : Sink := ⟨30, ⟨b, 0, none⟩, 233, fun _ => true, zsI b⟩

theorem zs_law (b : Nat) : (zsS b).Law Tryz.prog 561 where
  meth := fun w => by kernel_rfl
  ahead := fun w => by kernel_rfl
  enters := fun args w => by kernel_rfl
  stable := by
    rintro w w' F G l ⟨v, hb, hv, hne, hF⟩ hu hd
    exact ⟨v, hu.heap hb (hd b ((hF b).2 (.inl rfl))), hv.stable hu fun k hk => hd k ((hF k).2 (.inr hk)), hne, hF⟩
  lt := by
    rintro w F l ⟨v, hb, hv, hne, hF⟩ k hk
    rcases (hF k).1 hk with rfl | hk
    · exact heap_lt hb
    · exact (hv.lt k hk).2
  write := fun h hx _ hlim => zs_write h hx hlim
end Go.Proofs.YtmdkpihlhdjjaaaGreatFmt

namespace Go.Proofs.YtmdkpihlhdjjaaaGreatFmt
open Go.RowKit

theorem allocs_size (cs : List Obj) (w : World) : (cs.foldl World.alloc w).heap.size = w.heap.size + cs.length := by
  induction cs generalizing w with
  | nil => rfl
  | cons c cs ih => rw [List.foldl_cons, ih]; simp; omega
theorem allocs_upd (cs : List Obj) (w : World) : Upd (fun _ => False) w (cs.foldl World.alloc w) := by
  induction cs generalizing w with
  | nil => exact Upd.refl _ _
  | cons c cs ih => rw [List.foldl_cons]; exact ((Upd.refl _ w).alloc c).trans (ih _)
theorem allocs_get (cs : List Obj) (w : World) {i : Nat} {o : Obj} (h : cs[i]? = some o) : (cs.foldl World.alloc w).heap[w.heap.size + i]? = some o := by
  induction cs generalizing w i with
  | nil => simp at h
  | cons c cs ih =>
    rw [List.foldl_cons]
    cases i with
    | zero =>
      simp only [List.getElem?_cons_zero, Option.some.injEq] at h
      subst h
      exact (allocs_upd cs _).heap (heap_alloc_new w c) fun h => h
    | succ i =>
      have := ih (w.alloc c) (i := i) (by simpa using h)
      rw [show (w.alloc c).heap.size = w.heap.size + 1 by simp] at this
      rw [show w.heap.size + (i + 1) = w.heap.size + 1 + i by omega]
      exact this

theorem zs_zero {w : World} {k : Nat} (h : w.heap[k]? = some (.cells #[.slice none 0 0] 33 (0, 0))) : zsI k w (fun j => j = k) [] :=
  ⟨_, h, Row.nil w, by simp [Value.ownBlock], fun j => by simp [Value.ownBlock]⟩

end Go.Proofs.YtmdkpihlhdjjaaaGreatFmt
