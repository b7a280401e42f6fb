/-
  Small functions below a word's print: Pos.Line, Lit.Pos, Lit.End, the search for one byte.
-/
import Derived.Test.YtjljnfmacechfaaGreatFmtMa
import Derived.Deep.LoopGhost
namespace Go.Proofs.YtjljnfmacechfaaGreatFmt
open Go.RowKit

/-- A position as the program holds it. -/
abbrev posV (o lc : Nat) : Value := .agg #[.int .u32 (o : Int), .int .u32 (lc : Int)]

set_option maxRecDepth 100000 in
theorem pos_line (o lc : Nat) (h : lc < 4294967296) (w : World) : Calls Tryz.prog 19 #[posV o lc] w fun e w' => e = .returned (.int .u64 ((lc / 16384 : Nat) : Int)) ∧ Upd (fun _ => False) w w' := by
  have hsh : IntKind.u32.wrap ((lc : Int) >>> 14) = ((lc / 16384 : Nat) : Int) := by
    rw [Int.shiftRight_eq_div_pow, IntKind.wrap_u32]; omega
  have hsh2 : IntKind.u64.wrap ((lc : Int) / 16384) = ((lc / 16384 : Nat) : Int) := by
    rw [IntKind.wrap_u64]; omega
  clear h
  go_enter Tryz.func19, Tryz.ntmps19
  go_wp2
  go_ret
  exact ⟨congrArg Ending.returned (congrArg (Value.int .u64) (by omega)), (Upd.refl _ w).alloc _⟩

/-- A literal lies at block lb. -/
def LitAt (lb : Nat) (w : World) (o1 l1 o2 l2 : Nat) (v : ByteArray) : Prop :=
  w.heap[lb]? = some (.cells #[.int .u32 (o1 : Int), .int .u32 (l1 : Int), .int .u32 (o2 : Int), .int .u32 (l2 : Int), .string v] 146 (0, 0))

set_option maxRecDepth 100000 in
theorem lit_pos {lb : Nat} {w : World} {o1 l1 o2 l2 : Nat} {v : ByteArray} (h : LitAt lb w o1 l1 o2 l2 v) : Calls Tryz.prog 140 #[.pointer (some ⟨lb, 0, none⟩)] w fun e w' => e = .returned (posV o1 l1) ∧ Upd (fun _ => False) w w' := by
  have c0 : w.cell? ⟨lb, 0, none⟩ = some (.int .u32 (o1 : Int)) := cell_at h 0
  have c1 : w.cell? ⟨lb, 1, none⟩ = some (.int .u32 (l1 : Int)) := cell_at h 1
  have hlt : lb < w.heap.size := heap_lt h
  clear h
  go_enter Tryz.func140, Tryz.ntmps140
  go_wp2
  refine bodyPost_ret (results_cell_row rfl _ _ w.heap.size _ _ (0, 0) _ rfl (heap_alloc_new w _) Tryz.underlying45 rfl (by kernel_rfl)) rfl ?_
  exact ⟨rfl, (Upd.refl _ w).alloc _⟩

set_option maxRecDepth 100000 in
theorem lit_end {lb : Nat} {w : World} {o1 l1 o2 l2 : Nat} {v : ByteArray} (h : LitAt lb w o1 l1 o2 l2 v) : Calls Tryz.prog 207 #[.pointer (some ⟨lb, 0, none⟩)] w fun e w' => e = .returned (posV o2 l2) ∧ Upd (fun _ => False) w w' := by
  have c0 : w.cell? ⟨lb, 2, none⟩ = some (.int .u32 (o2 : Int)) := cell_at h 2
  have c1 : w.cell? ⟨lb, 3, none⟩ = some (.int .u32 (l2 : Int)) := cell_at h 3
  have hlt : lb < w.heap.size := heap_lt h
  clear h
  go_enter Tryz.func207, Tryz.ntmps207
  go_wp2
  refine bodyPost_ret (results_cell_row rfl _ _ w.heap.size _ _ (0, 0) _ rfl (heap_alloc_new w _) Tryz.underlying45 rfl (by kernel_rfl)) rfl ?_
  exact ⟨rfl, (Upd.refl _ w).alloc _⟩

set_option maxRecDepth 100000 in
set_option maxHeartbeats 1000000 in
/-- One byte that the text does not hold is not found. -/
theorem zz_index_no (s : ByteArray) (c : UInt8) (h : ∀ x ∈ s.data.toList, x ≠ c) (hs : s.size ≤ 1099511627776) (w : World) :
    Calls Tryz.prog 63 #[.string s, .string ⟨#[c]⟩] w fun e w' => e = .returned (.int .i64 (-1)) ∧ w' = w := by
  have hsz : (s.size : Int) ≤ 1099511627776 := by omega
  have hone : (ByteArray.mk #[c]).size = 1 := rfl
  have hne : ∀ i, i < s.size → ((s.extract i (i + 1)).toList == [c]) = false := fun i hi => by
    rw [beq_eq_false_iff_ne]
    intro he
    have h1 : (s.extract i (i + 1)).data.toList = [c] := by rw [← he, ByteArray.toList_eq]
    simp only [ByteArray.data_extract, Array.toList_extract, List.extract_eq_take_drop] at h1
    have h2 : s.data.toList[i]'hi ∈ s.data.toList := List.getElem_mem _
    refine h _ h2 ?_
    have h3 : (List.take (i + 1 - i) (List.drop i s.data.toList))[0]? = some (s.data.toList[i]'hi) := by
      rw [List.getElem?_take_of_lt (by omega), List.getElem?_drop]
      simp
    rw [h1] at h3
    simpa using h3.symm
  have HNe := Lib.hid hne
  clear h hne
  go_enter Tryz.func63, Tryz.ntmps63
  go_wp2_with fail
  go_loopg [5] (s.size) (fun k v5 wr => ∃ i : Nat, v5 = .int .i64 (i : Int) ∧ i + k = s.size ∧ wr = w)
  case atStart => exact ⟨0, rfl, by omega, rfl⟩
  case round =>
    obtain ⟨i, rfl, hik, rfl⟩ := hrel
    have HIK := Lib.hid hik
    clear hik
    by_cases hlt : (i : Int) + 1 ≤ (s.size : Int)
    · have hne := HNe.out i (by omega)
      go_wp2
      go_roundg (gk - 1)
      case measure => have := HIK.out; omega
      case rel => exact ⟨i + 1, by go_num, by have := HIK.out; omega, rfl⟩
    · have hiI : (i : Int) ≤ (s.size : Int) := by have := HIK.out; omega
      go_wp2
      go_ret
      exact ⟨rfl, rfl⟩
end Go.Proofs.YtjljnfmacechfaaGreatFmt
