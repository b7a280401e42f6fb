/-
  The options' makers and NewPrinter.
-/
import Derived.Test.YtnhmgjgdkcgmfaaGreatFmtMe
namespace Go.Proofs.YtnhmgjgdkcgmfaaGreatFmt
open Go.RowKit

set_option maxRecDepth 100000 in
theorem mk_mi (v : Bool) (w : World) : Calls Tryz.prog 22 #[.bool v] w fun e w' => e = .returned (.func (.func 27) #[] #[.pointer (some ⟨w.heap.size, 0, none⟩)]) ∧ w' = w.alloc (.cells #[.bool v] 4) := by
  go_enter Tryz.func22, Tryz.ntmps22
  go_wp2
  go_ret
  exact ⟨rfl, rfl⟩

/-- An option that has been made: its closure's function, the block of what it captured, and what it does. -/
structure POpt where
  f : FuncId
  box : Nat
  cell : Value
  T : PS → PS
def POpt.val (o : POpt) : Value := .func (.func o.f) #[] #[.pointer (some ⟨o.box, 0, none⟩)]
def POpt.Good (o : POpt) : Prop := OptLaw o.f o.box o.cell o.T ∧ ∀ args w, (callFunc o.f args).run Tryz.prog w = .ok (.enter o.f args) w

/-- A Printer's state before its options. -/
def PS0 : PS := ⟨0, false, 0, false, false, false, false, false, false, false, 0, false, false, false, none, 0, false, 0, 0, 0, none, 0, 0, false, none, 0, .pointer none⟩

theorem take_foldl {α : Type} (T : α → PS → PS) (L : List α) {j : Nat} (hj : j < L.length) (s : PS) : (L.take (j + 1)).foldl (fun s o => T o s) s = T L[j] ((L.take j).foldl (fun s o => T o s) s) := by
  rw [List.take_succ_eq_append_getElem hj, List.foldl_append]
  rfl

theorem new_start {w1 : World} {b g : Nat} (hb : BufRaw b g w1) :
    PrAny (w1.heap.size + 1) b w1.heap.size PS0 ((w1.alloc (.cells (twRawCells .nilIface (.int .i64 0) (.int .i64 0) (.int .i64 0) (fun _ => .int .u8 0) (.int .u64 0) (.slice none 0 0) 0 0 0 false (.slice none 0 0) (.slice none 0 0)) 79)).alloc
      (.cells (PS0.cells (.iface 68 (.pointer (some ⟨b, 0, none⟩))) (.pointer (some ⟨w1.heap.size, 0, none⟩)) (.pointer none)) 89)) (PrOwn (w1.heap.size + 1) b g w1.heap.size fun _ => False) := by
  obtain ⟨e, n, wr, cur, h1, h2, h3, h4⟩ := hb
  have hlb := heap_lt h1
  have hlg := heap_lt h2
  generalize hA : (Obj.cells (twRawCells .nilIface (.int .i64 0) (.int .i64 0) (.int .i64 0) (fun _ => .int .u8 0) (.int .u64 0) (.slice none 0 0) 0 0 0 false (.slice none 0 0) (.slice none 0 0)) 79) = A
  generalize hC : (Obj.cells (PS0.cells (.iface 68 (.pointer (some ⟨b, 0, none⟩))) (.pointer (some ⟨w1.heap.size, 0, none⟩)) (.pointer none)) 89) = C
  have hu : Upd (fun _ => False) w1 ((w1.alloc A).alloc C) := ((Upd.refl _ w1).alloc A).alloc C
  have hp : ((w1.alloc A).alloc C).heap[w1.heap.size + 1]? = some C := by
    have h := heap_alloc_new (w1.alloc A) C
    rw [show (w1.alloc A).heap.size = w1.heap.size + 1 by simp] at h
    exact h
  have ht : ((w1.alloc A).alloc C).heap[w1.heap.size]? = some A := (Below.heap_alloc _ _ _ (by simp)).trans (heap_alloc_new w1 A)
  refine ⟨g, fun _ => False, ⟨by rw [← hC] at hp ⊢; exact hp, ⟨e, n, wr, cur, hu.heap h1 (fun h => h), hu.heap h2 (fun h => h), h3, h4⟩, TwRaw.zero (by rw [ht, ← hA]), Nat.le_refl _, ?_⟩, fun k => Iff.rfl⟩
  refine ⟨?_, ?_, ?_, ?_, ?_, fun h => h, fun h => h, fun h => h⟩ <;> omega

set_option maxRecDepth 100000 in
set_option maxHeartbeats 4000000 in
theorem new_printer (L : List POpt) (hg : ∀ o ∈ L, o.Good) {w : World} {a c : Nat} (hL : L.length ≤ 1000) (hrow : ∀ j o, L[j]? = some o → w.cell? ⟨a, j, none⟩ = some o.val ∧ w.cell? ⟨o.box, 0, none⟩ = some o.cell) :
    Calls Tryz.prog 21 #[.slice (some ⟨a, 0, none⟩) L.length c] w fun e w' => ∃ pb b tb O, e = .returned (.pointer (some ⟨pb, 0, none⟩)) ∧ PrAny pb b tb (L.foldl (fun s o => o.T s) PS0) w' O ∧ (∀ k, O k → w.heap.size ≤ k) ∧ Upd (fun _ => False) w w' := by
  have HNw := Lib.hid (nw_nil w)
  have HR := Lib.hid hrow
  have HG := Lib.hid hg
  have hlI : (L.length : Int) ≤ 1000 := by omega
  clear hrow hg
  go_enter Tryz.func21, Tryz.ntmps21
  go_wp2_with (go_at_call 26; refine HNw.out.mono ?_)
  rintro e w1 ⟨b, g, rfl, hb1, hbl, hgl, hu1⟩
  have HB := Lib.hid (And.intro hb1 (And.intro hbl (And.intro hgl hu1)))
  clear hb1 hbl hgl hu1
  have HStart := Lib.hid (new_start HB.out.1)
  go_wp2_with fail
  go_loopg [13] L.length (fun k v13 wr => ∃ j : Nat, v13 = .int .i64 (j : Int) ∧ j + k = L.length ∧ PrAny (w1.heap.size + 1) b w1.heap.size ((L.take j).foldl (fun s o => o.T s) PS0) wr (PrOwn (w1.heap.size + 1) b g w1.heap.size fun _ => False) ∧ Upd (fun _ => False) w wr)
  case atStart => exact ⟨0, rfl, by omega, HStart.out, (HB.out.2.2.2.alloc _).alloc _⟩
  case round =>
    obtain ⟨j, rfl, hjk, hA, hU⟩ := hrel
    have HJ := Lib.hid hjk; clear hjk
    by_cases hlt : j < L.length
    · have hltI : (j : Int) < (L.length : Int) := by omega
      obtain ⟨hc1, hc2⟩ := HR.out j L[j] (List.getElem?_eq_getElem hlt)
      have hl2 := World.block_lt_of_cell? w _ hc2
      have d1 : wr.cell? ⟨a, j, none⟩ = some (.func (.func L[j].f) #[] #[.pointer (some ⟨L[j].box, 0, none⟩)]) := hU.cell hc1 fun h => h
      have he := (HG.out _ (List.getElem_mem hlt)).2
      have hz := HB.out.2.2.2.size
      obtain ⟨Q, HQ, HC⟩ := callsVar ((HG.out _ (List.getElem_mem hlt)).1 hA (hU.cell hc2 fun h => h) (by
        have h1 := HB.out.2.1
        have h2 := HB.out.2.2.1
        rintro (h | h | h | h | h)
        · have : L[j].box < w.heap.size := hl2
          omega
        · have : L[j].box < w.heap.size := hl2
          omega
        · have : L[j].box < w.heap.size := hl2
          omega
        · have : L[j].box < w.heap.size := hl2
          omega
        · exact h))
      have HU := Lib.hid hU
      clear hc1 hc2 hA hU hl2 hz
      go_wp2_with (refine HC.out.mono ?_)
      rintro e w2 hq
      obtain ⟨rfl, hA2, hU2⟩ := HQ.out e w2 hq
      clear hq
      have HA2 := Lib.hid hA2
      have HU2 := Lib.hid hU2
      clear hA2 hU2
      go_wp2_with fail
      go_roundg (L.length - (j + 1))
      case measure => have := HJ.out; omega
      case rel =>
        refine ⟨j + 1, by go_num, by omega, ?_, ?_⟩
        · rw [take_foldl (fun o s => o.T s) L hlt]
          exact HA2.out
        · exact (HU.out.trans' HU2.out fun k hk => .inr (by subst hk; have := HB.out.2.2.2.size; omega))
    · obtain rfl : j = L.length := by have := HJ.out; omega
      have HA := Lib.hid hA
      have HU := Lib.hid hU
      clear hA hU
      go_wp2_with fail
      go_ret
      have hA := HA.out
      rw [List.take_length] at hA
      refine ⟨_, rfl, b, _, _, hA, fun k hk => ?_, HU.out⟩
      have h0 := HB.out.2.2.2.size
      have h1 := HB.out.2.1
      have h2 := HB.out.2.2.1
      rcases hk with h | h | h | h | h
      · omega
      · omega
      · omega
      · omega
      · exact h.elim
end Go.Proofs.YtnhmgjgdkcgmfaaGreatFmt
