/-
  n010_157: statements of the eight kinds are made; which of them end in a parenthesis.
  n010_157: closingParen on a Printer that is built out of a state, with statements of given kinds.
-/
import Derived.Test.YtmdkpihlhdjjaaaGreatFmtKGrX
import Derived.Test.YtmdkpihlhdjjaaaGreatFmtKMf
import Derived.Test.YtmdkpihlhdjjaaaGreatFmtKCc
import Derived.Test.YtmdkpihlhdjjaaaGreatFmtKVi
namespace Go.Proofs.YtmdkpihlhdjjaaaGreatFmt
open Go.RowKit

/-- Which kinds end in a parenthesis. -/
def endK (k : Nat) : Bool := decide (1 ≤ k) && decide (k ≤ 3)

section
set_option maxRecDepth 100000
theorem er_sub (x : Value) (w : World) : Calls Tryz.prog 137 #[.iface 159 x] w fun e w' => e = .returned (.bool true) ∧ w = w' := by
  have hta1 := fun w => asrt_other (P := Tryz.prog) Tryz.underlying104 (by kernel_rfl) (t := 159) (by decide) 94 x w
  have hta2 := fun w => asrt_other (P := Tryz.prog) Tryz.underlying176 (by kernel_rfl) (t := 159) (by decide) 94 x w
  have hta3 := fun w => asrt_same (P := Tryz.prog) Tryz.underlying159 94 x w
  go_enter Tryz.func137, Tryz.ntmps137
  go_wp2_with fail
  go_ret
  exact ⟨rfl, rfl⟩
theorem er_ari (x : Value) (w : World) : Calls Tryz.prog 137 #[.iface 198 x] w fun e w' => e = .returned (.bool true) ∧ w = w' := by
  have hta1 := fun w => asrt_other (P := Tryz.prog) Tryz.underlying104 (by kernel_rfl) (t := 198) (by decide) 94 x w
  have hta2 := fun w => asrt_other (P := Tryz.prog) Tryz.underlying176 (by kernel_rfl) (t := 198) (by decide) 94 x w
  have hta3 := fun w => asrt_other (P := Tryz.prog) Tryz.underlying159 (by kernel_rfl) (t := 198) (by decide) 94 x w
  have hta4 := fun w => asrt_same (P := Tryz.prog) Tryz.underlying198 94 x w
  go_enter Tryz.func137, Tryz.ntmps137
  go_wp2_with fail
  go_ret
  exact ⟨rfl, rfl⟩
theorem er_call (x : Value) (w : World) : Calls Tryz.prog 137 #[.iface 147 x] w fun e w' => e = .returned (.bool false) ∧ w = w' := by
  have hta1 := fun w => asrt_other (P := Tryz.prog) Tryz.underlying104 (by kernel_rfl) (t := 147) (by decide) 94 x w
  have hta2 := fun w => asrt_other (P := Tryz.prog) Tryz.underlying176 (by kernel_rfl) (t := 147) (by decide) 94 x w
  have hta3 := fun w => asrt_other (P := Tryz.prog) Tryz.underlying159 (by kernel_rfl) (t := 147) (by decide) 94 x w
  have hta4 := fun w => asrt_other (P := Tryz.prog) Tryz.underlying198 (by kernel_rfl) (t := 147) (by decide) 94 x w
  go_enter Tryz.func137, Tryz.ntmps137
  go_wp2_with fail
  go_ret
  exact ⟨rfl, rfl⟩
theorem er_blk (x : Value) (w : World) : Calls Tryz.prog 137 #[.iface 153 x] w fun e w' => e = .returned (.bool false) ∧ w = w' := by
  have hta1 := fun w => asrt_other (P := Tryz.prog) Tryz.underlying104 (by kernel_rfl) (t := 153) (by decide) 94 x w
  have hta2 := fun w => asrt_other (P := Tryz.prog) Tryz.underlying176 (by kernel_rfl) (t := 153) (by decide) 94 x w
  have hta3 := fun w => asrt_other (P := Tryz.prog) Tryz.underlying159 (by kernel_rfl) (t := 153) (by decide) 94 x w
  have hta4 := fun w => asrt_other (P := Tryz.prog) Tryz.underlying198 (by kernel_rfl) (t := 153) (by decide) 94 x w
  go_enter Tryz.func137, Tryz.ntmps137
  go_wp2_with fail
  go_ret
  exact ⟨rfl, rfl⟩

/-- The statement that the laws make. -/
def kStO (cmd : Value) (bg : Bool) (rd : Value) : Obj := .cells #[.slice none 0 0, cmd, .int .u32 0, .int .u32 0, .int .u32 0, .int .u32 0, .bool false, .bool bg, .bool false, .bool false, rd] 142 (0, 0)

theorem er_stmt {sb : Nat} {cmd : Value} {r : Bool} {w : World} (h : w.heap[sb]? = some (kStO cmd false (.slice none 0 0))) (hc : Calls Tryz.prog 137 #[cmd] w fun e w' => e = .returned (.bool r) ∧ w = w') :
    Calls Tryz.prog 137 #[.iface 104 (.pointer (some ⟨sb, 0, none⟩))] w fun e w' => e = .returned (.bool r) ∧ w = w' := by
  have hta1 := fun w => asrt_same (P := Tryz.prog) Tryz.underlying104 94 (.pointer (some ⟨sb, 0, none⟩)) w
  have c1 : w.cell? ⟨sb, 1, none⟩ = some cmd := cell_at h 1
  have c7 : w.cell? ⟨sb, 7, none⟩ = some (.bool false) := cell_at h 7
  have c8 : w.cell? ⟨sb, 8, none⟩ = some (.bool false) := cell_at h 8
  have c9 : w.cell? ⟨sb, 9, none⟩ = some (.bool false) := cell_at h 9
  have c10 : w.cell? ⟨sb, 10, none⟩ = some (.slice none 0 0) := cell_at h 10
  have HC := Lib.hid hc
  clear h hc
  go_enter Tryz.func137, Tryz.ntmps137
  go_wp2_with (go_at_call 137; refine HC.out.mono ?_; rintro e w1 ⟨rfl, rfl⟩)
  go_ret
  exact ⟨rfl, rfl⟩
theorem er_stmt_bg {sb : Nat} {cmd : Value} {w : World} (h : w.heap[sb]? = some (kStO cmd true (.slice none 0 0))) :
    Calls Tryz.prog 137 #[.iface 104 (.pointer (some ⟨sb, 0, none⟩))] w fun e w' => e = .returned (.bool false) ∧ w = w' := by
  have hta1 := fun w => asrt_same (P := Tryz.prog) Tryz.underlying104 94 (.pointer (some ⟨sb, 0, none⟩)) w
  have c7 : w.cell? ⟨sb, 7, none⟩ = some (.bool true) := cell_at h 7
  clear h
  go_enter Tryz.func137, Tryz.ntmps137
  go_wp2_with fail
  go_ret
  exact ⟨rfl, rfl⟩
theorem er_stmt_rd {sb : Nat} {cmd : Value} {a : Option Addr} {w : World} (h : w.heap[sb]? = some (kStO cmd false (.slice a 1 1))) :
    Calls Tryz.prog 137 #[.iface 104 (.pointer (some ⟨sb, 0, none⟩))] w fun e w' => e = .returned (.bool false) ∧ w = w' := by
  have hta1 := fun w => asrt_same (P := Tryz.prog) Tryz.underlying104 94 (.pointer (some ⟨sb, 0, none⟩)) w
  have c7 : w.cell? ⟨sb, 7, none⟩ = some (.bool false) := cell_at h 7
  have c8 : w.cell? ⟨sb, 8, none⟩ = some (.bool false) := cell_at h 8
  have c9 : w.cell? ⟨sb, 9, none⟩ = some (.bool false) := cell_at h 9
  have c10 : w.cell? ⟨sb, 10, none⟩ = some (.slice a 1 1) := cell_at h 10
  clear h
  go_enter Tryz.func137, Tryz.ntmps137
  go_wp2_with fail
  go_ret
  exact ⟨rfl, rfl⟩
theorem er_bin {xb : Nat} {yb : Nat} {r : Bool} {c0 c1 c2 c3 : Value} {w : World} (h : w.heap[xb]? = some (.cells #[c0, c1, c2, c3, .pointer (some ⟨yb, 0, none⟩)] 179 (0, 0)))
    (hc : Calls Tryz.prog 137 #[.iface 104 (.pointer (some ⟨yb, 0, none⟩))] w fun e w' => e = .returned (.bool r) ∧ w = w') :
    Calls Tryz.prog 137 #[.iface 176 (.pointer (some ⟨xb, 0, none⟩))] w fun e w' => e = .returned (.bool r) ∧ w = w' := by
  have hta1 := fun w => asrt_other (P := Tryz.prog) Tryz.underlying104 (by kernel_rfl) (t := 176) (by decide) 94 (.pointer (some ⟨xb, 0, none⟩)) w
  have hta2 := fun w => asrt_same (P := Tryz.prog) Tryz.underlying176 94 (.pointer (some ⟨xb, 0, none⟩)) w
  have e4 : w.cell? ⟨xb, 4, none⟩ = some (.pointer (some ⟨yb, 0, none⟩)) := cell_at h 4
  have HC := Lib.hid hc
  clear h hc
  go_enter Tryz.func137, Tryz.ntmps137
  go_wp2_with (go_at_call 137; refine HC.out.mono ?_; rintro e w1 ⟨rfl, rfl⟩)
  go_ret
  exact ⟨rfl, rfl⟩
end

/-- What is known of a statement of kind k: asked behind any change elsewhere, endsWithRparen answers so. -/
def KSt (lo : Nat) (w : World) (sb k : Nat) : Prop := ∃ hi, hi ≤ w.heap.size ∧ ∀ W : World, (∀ j, lo ≤ j → j < hi → W.heap[j]? = w.heap[j]?) → Calls Tryz.prog 137 #[.iface 104 (.pointer (some ⟨sb, 0, none⟩))] W fun e w' => e = .returned (.bool (endK k)) ∧ W = w'

theorem allocs_at (objs : List Obj) (w : World) (i : Nat) {o : Obj} (h : objs[i]? = some o) : (objs.foldl World.alloc w).heap[w.heap.size + i]? = some o := by
  induction objs generalizing w i with
  | nil => simp at h
  | cons x r ih =>
    rcases i with _ | i
    · simp only [List.getElem?_cons_zero, Option.some.injEq] at h
      subst h
      have h1 : ∀ (r : List Obj) (W : World), w.heap.size < W.heap.size → W.heap[w.heap.size]? = some x → (r.foldl World.alloc W).heap[w.heap.size]? = some x := by
        intro r
        induction r with
        | nil => exact fun W _ h => h
        | cons y r ih => exact fun W hW h => ih (W.alloc y) (by simp; omega) ((Below.heap_alloc W y _ hW).trans h)
      exact h1 r (w.alloc x) (by simp) (heap_alloc_new w x)
    · have h2 := ih (w.alloc x) i (by simpa using h)
      rw [show (w.alloc x).heap.size + i = w.heap.size + (i + 1) by simp; omega] at h2
      exact h2
theorem allocs_at4 (w : World) (a b c d : Obj) (i : Nat) {o : Obj} (h : [a, b, c, d][i]? = some o) : ((((w.alloc a).alloc b).alloc c).alloc d).heap[w.heap.size + i]? = some o := allocs_at [a, b, c, d] w i h
theorem allocs_at6 (w : World) (a b c d e f : Obj) (i : Nat) {o : Obj} (h : [a, b, c, d, e, f][i]? = some o) : ((((((w.alloc a).alloc b).alloc c).alloc d).alloc e).alloc f).heap[w.heap.size + i]? = some o := allocs_at [a, b, c, d, e, f] w i h
end Go.Proofs.YtmdkpihlhdjjaaaGreatFmt

namespace Go.Proofs.YtmdkpihlhdjjaaaGreatFmt
open Go.RowKit

/-- The statements that have been made. -/
structure KInv (w0 w : World) (v : Value) (sbs ks : List Nat) : Prop where
  row : RowG 104 w v (sbs.map fun sb => .pointer (some ⟨sb, 0, none⟩))
  len : sbs.length = ks.length
  own : ∀ b, v.ownBlock = some b → w0.heap.size ≤ b
  sts : ∀ (i sb k : Nat), sbs[i]? = some sb → ks[i]? = some k → ∃ lo hi, hi ≤ w.heap.size ∧ (∀ b, v.ownBlock = some b → b < lo ∨ hi ≤ b) ∧
    ∀ W : World, (∀ j, lo ≤ j → j < hi → W.heap[j]? = w.heap[j]?) → Calls Tryz.prog 137 #[.iface 104 (.pointer (some ⟨sb, 0, none⟩))] W fun e w' => e = .returned (.bool (endK k)) ∧ W = w'
  upd : Upd (fun _ => False) w0 w

theorem KInv.next {w0 w w5 w6 : World} {v v6 : Value} {sbs ks : List Nat} {sb k : Nat} (h : KInv w0 w v sbs ks) (hk : KSt w.heap.size w5 sb k) (hu5 : Upd (fun _ => False) w w5)
    (hr : RowG 104 w6 v6 ((sbs.map fun sb => .pointer (some ⟨sb, 0, none⟩)) ++ [.pointer (some ⟨sb, 0, none⟩)])) (hu6 : Upd (fun k => v.ownBlock = some k) w5 w6) (ho : ∀ k, v6.ownBlock = some k → v.ownBlock = some k ∨ w5.heap.size ≤ k) :
    KInv w0 w6 v6 (sbs ++ [sb]) (ks ++ [k]) := by
  have hz5 := hu5.size
  have hz6 := hu6.size
  have hz := h.upd.size
  have hvl : ∀ k, v.ownBlock = some k → k < w.heap.size := fun k hk => h.row.lt k hk
  refine ⟨?_, by simp [h.len], fun b hb => (ho b hb).elim (h.own b) fun h => by omega, ?_, (h.upd.trans hu5).trans' hu6 fun b hb => .inr (h.own b hb)⟩
  · rw [List.map_append]
    exact hr
  · intro i sb' k' hi hk'
    by_cases hlt : i < sbs.length
    · rw [List.getElem?_append_left hlt] at hi
      rw [List.getElem?_append_left (by rw [← h.len]; exact hlt)] at hk'
      obtain ⟨lo, hi', h1, h2, h3⟩ := h.sts i sb' k' hi hk'
      refine ⟨lo, hi', by omega, fun b hb => (ho b hb).elim (h2 b) fun h => by omega, fun W hW => h3 W fun j hj1 hj2 => (hW j hj1 hj2).trans ?_⟩
      have e1 := hu6.block j (by omega) (fun e => by rcases h2 j e with h | h <;> omega)
      have e2 := hu5.block j (by omega) fun h => h
      exact e1.trans e2
    · have hil : i = sbs.length := by
        have h1 := (List.getElem?_eq_some_iff.1 hi).1
        rw [List.length_append, List.length_singleton] at h1
        omega
      subst hil
      rw [List.getElem?_append_right (Nat.le_refl _)] at hi
      rw [h.len, List.getElem?_append_right (Nat.le_refl _)] at hk'
      simp only [Nat.sub_self, List.getElem?_cons_zero, Option.some.injEq] at hi hk'
      subst hi hk'
      obtain ⟨hi', h1, h3⟩ := hk
      refine ⟨w.heap.size, hi', by omega, fun b hb => (ho b hb).imp (hvl b) fun h => by omega, fun W hW => h3 W fun j hj1 hj2 => (hW j hj1 hj2).trans ?_⟩
      exact hu6.block j (by omega) (fun e => by have := hvl j e; omega)

set_option maxRecDepth 100000 in
theorem stmtInfo : ∃ i z, Tryz.prog.info? 104 = some i ∧ i.zero = some z ∧ z.cells.size = 1 ∧ i.size = 1 ∧ i.bytes = 8 := ⟨_, _, rfl, rfl, rfl, rfl, rfl⟩
set_option maxRecDepth 100000 in
theorem coms_make (w : World) (n : Nat) (hn : n ≤ 4096) : ∃ w0, (Instr.makeSlice 88 (.int .i64 (n : Int)) (.int .i64 (n : Int))).run Tryz.prog w = .ok (.slice (some ⟨w.heap.size, 0, none⟩) n n) w0 ∧ Upd (fun _ => False) w w0 := by
  obtain ⟨i, z, hi, hz, hby⟩ : ∃ i z, Tryz.prog.info? 42 = some i ∧ i.zero = some z ∧ i.bytes = 24 := ⟨_, _, rfl, rfl, rfl⟩
  exact ⟨_, run_make w 88 42 i _ Tryz.underlying88 hi hz .i64 .i64 n n (by omega) (by omega) (by rw [hby]; omega) (by omega), (Upd.refl _ w).alloc _⟩

/-- Whether the statements end in a parenthesis. -/
def endKs : List Nat → Bool
  | [k] => endK k
  | _ => false

theorem endKs_one {ks : List Nat} (h : endKs ks = true) : ks.length = 1 := by
  rcases ks with _ | ⟨a, _ | ⟨b, t⟩⟩ <;> simp [endKs] at h ⊢

theorem KInv.ends {w0 wr : World} {vo : Option Addr} {vc n : Nat} {sbs ks : List Nat} (h : KInv w0 wr (.slice vo n vc) sbs ks) (hn : n = ks.length) (h1 : n = 1) {pb : Nat} {w4 : World} (hu : Upd (fun _ => False) wr w4) (hpb : wr.heap.size ≤ pb) : EndsAt w4 pb vo (endKs ks) := by
  obtain ⟨k, rfl⟩ := List.length_eq_one_iff.1 (hn.symm.trans h1)
  obtain ⟨sb, rfl⟩ := List.length_eq_one_iff.1 h.len
  obtain ⟨g, cap, cur, hv, hg, _, _, hcur⟩ := h.row.lies (by simp)
  injection hv with hv _ _
  have hgl := heap_lt hg
  obtain ⟨lo, hi, h2, _, h4⟩ := h.sts 0 sb k rfl rfl
  refine ⟨g, some ⟨sb, 0, none⟩, hv, by omega, hu.cell ((cell_at hg 0).trans (hcur 0 _ rfl)) (fun h => h), fun W hW => ?_⟩
  refine (h4 W fun j hj1 hj2 => ?_).mono fun e w' ⟨he, hw⟩ => ⟨he, by rw [← hw]; exact Upd.refl _ _⟩
  exact (hW.block j (by have := hu.size; omega) (by omega)).trans (hu.block j (by omega) fun h => h)

end Go.Proofs.YtmdkpihlhdjjaaaGreatFmt
