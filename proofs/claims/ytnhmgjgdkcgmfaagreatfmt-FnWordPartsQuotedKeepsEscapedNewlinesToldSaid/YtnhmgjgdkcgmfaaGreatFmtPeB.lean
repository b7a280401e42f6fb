/-
  The Printer's methods that Print of an empty file goes through: reset, comments, stmtList, flushHeredocs, flushComments.
-/
import Derived.Test.YtnhmgjgdkcgmfaaGreatFmtPeA
namespace Go.Proofs.YtnhmgjgdkcgmfaaGreatFmt
open Go.RowKit

section
variable {pb : Nat} {w : World} {wv tv cv : Value} {s : PS}

/-- The Printer lies at block pb. -/
def PCell (pb : Nat) (w : World) (wv tv cv : Value) (s : PS) : Prop := w.heap[pb]? = some (.cells (s.cells wv tv cv) 89 (0, 0))

theorem PCell.at (h : PCell pb w wv tv cv s) (j : Nat) : w.cell? ⟨pb, j, none⟩ = (s.cells wv tv cv)[j]? := cell_at h j
theorem PCell.fr (h : PCell pb w wv tv cv s) (j : Nat) : w.frozen? ⟨pb, j, none⟩ = false := frozen_at h j
theorem PCell.set (h : PCell pb w wv tv cv s) {i : Nat} {v : Value} {s' : PS} (he : (s.cells wv tv cv).setIfInBounds i v = s'.cells wv tv cv) : PCell pb (w.setCell ⟨pb, i, none⟩ v) wv tv cv s' := by
  have := heap_setCell_at (i := i) v h
  rwa [he] at this
theorem PCell.keep {F : Nat → Prop} {w' : World} (h : PCell pb w wv tv cv s) (hu : Upd F w w') (hn : ¬ F pb) : PCell pb w' wv tv cv s := hu.heap h hn
theorem PCell.set_at {v : Value} {p : Addr} (h : PCell pb w wv tv cv s) (hp : ¬ pb = p.block) : PCell pb (w.setCell p v) wv tv cv s := (Below.heap_setCell _ _ _ _ hp).trans h
end

/-- The state that reset makes. -/
def PS.rst (s : PS) : PS := { s with ws := 2, wn := false, mn := false, fl := !s.mi, ln := 0, ll := 0, lv := 0, lin := 0, nb := false }

set_option maxRecDepth 100000 in
set_option maxHeartbeats 1000000 in
theorem pe_reset {pb : Nat} {w : World} {wv tv cv : Value} {s : PS} (h : PCell pb w wv tv cv s) (_ : s.lin ≤ s.lic) :
    Calls Tryz.prog 28 #[.pointer (some ⟨pb, 0, none⟩)] w fun e w' => e = .returned (.tuple #[]) ∧ PCell pb w' wv tv cv s.rst ∧ Upd (fun k => k = pb) w w' := by
  have c10 : w.cell? ⟨pb, 10, none⟩ = some (.bool s.mi) := h.at 10
  have c13 : w.cell? ⟨pb, 13, none⟩ = some (.int .u8 (s.ws : Int)) := h.at 13
  have c14 : w.cell? ⟨pb, 14, none⟩ = some (.bool s.wn) := h.at 14
  have c15 : w.cell? ⟨pb, 15, none⟩ = some (.bool s.mn) := h.at 15
  have c17 : w.cell? ⟨pb, 17, none⟩ = some (.slice s.pca 0 s.pcc) := h.at 17
  have c18 : w.cell? ⟨pb, 18, none⟩ = some (.bool s.fl) := h.at 18
  have c19 : w.cell? ⟨pb, 19, none⟩ = some (.int .u64 (s.ln : Int)) := h.at 19
  have c20 : w.cell? ⟨pb, 20, none⟩ = some (.int .u64 (s.ll : Int)) := h.at 20
  have c21 : w.cell? ⟨pb, 21, none⟩ = some (.int .u64 (s.lv : Int)) := h.at 21
  have c22 : w.cell? ⟨pb, 22, none⟩ = some (.slice s.lia s.lin s.lic) := h.at 22
  have c23 : w.cell? ⟨pb, 23, none⟩ = some (.bool s.nb) := h.at 23
  have c24 : w.cell? ⟨pb, 24, none⟩ = some (.slice s.pha 0 s.phc) := h.at 24
  have f13 := h.fr 13; have f14 := h.fr 14; have f15 := h.fr 15; have f17 := h.fr 17; have f18 := h.fr 18; have f19 := h.fr 19; have f20 := h.fr 20
  have f21 := h.fr 21; have f22 := h.fr 22; have f23 := h.fr 23; have f24 := h.fr 24
  have HA := Lib.hid h
  clear h
  go_enter Tryz.func28, Tryz.ntmps28
  go_wp2_with fail
  apply bodyPost_end (v := .tuple #[])
  · exact results_none rfl _ _ _
  · rfl
  refine ⟨rfl, ?_, ?_⟩
  · refine (heap_setCell_at _ (heap_setCell_at _ (heap_setCell_at _ (heap_setCell_at _ (heap_setCell_at _ (heap_setCell_at _ (heap_setCell_at _ (heap_setCell_at _ (heap_setCell_at _ (heap_setCell_at _ (heap_setCell_at _ HA.out))))))))))).trans ?_
    simp [PS.cells, PS.rst]
  · exact Upd.setCell (F := fun k => k = pb) (Upd.setCell (F := fun k => k = pb) (Upd.setCell (F := fun k => k = pb) (Upd.setCell (F := fun k => k = pb) (Upd.setCell (F := fun k => k = pb) (Upd.setCell (F := fun k => k = pb) (Upd.setCell (F := fun k => k = pb) (Upd.setCell (F := fun k => k = pb) (Upd.setCell (F := fun k => k = pb) (Upd.setCell (F := fun k => k = pb) (Upd.setCell (F := fun k => k = pb) (Upd.refl _ w)
      (by exact .inl rfl) _) (by exact .inl rfl) _) (by exact .inl rfl) _) (by exact .inl rfl) _) (by exact .inl rfl) _) (by exact .inl rfl) _) (by exact .inl rfl) _) (by exact .inl rfl) _) (by exact .inl rfl) _) (by exact .inl rfl) _) (by exact .inl rfl) _

set_option maxRecDepth 100000 in
set_option maxHeartbeats 1000000 in
theorem pe_fh {pb : Nat} {w : World} {wv tv cv : Value} {s : PS} (h : PCell pb w wv tv cv s) :
    Calls Tryz.prog 40 #[.pointer (some ⟨pb, 0, none⟩)] w fun e w' => e = .returned (.tuple #[]) ∧ w' = w := by
  have c24 : w.cell? ⟨pb, 24, none⟩ = some (.slice s.pha 0 s.phc) := h.at 24
  clear h
  go_enter Tryz.func40, Tryz.ntmps40
  go_wp2
  refine bodyPost_ret (v := .tuple #[]) (results_none rfl _ _ _) rfl ?_
  exact ⟨rfl, rfl⟩

/-- The state that flushComments makes. -/
def PS.noCom (s : PS) : PS := { s with pca := none, pcc := 0 }

set_option maxRecDepth 100000 in
set_option maxHeartbeats 1000000 in
theorem pe_fc {pb : Nat} {w : World} {wv tv cv : Value} {s : PS} (h : PCell pb w wv tv cv s) :
    Calls Tryz.prog 41 #[.pointer (some ⟨pb, 0, none⟩)] w fun e w' => e = .returned (.tuple #[]) ∧ PCell pb w' wv tv cv s.noCom ∧ Upd (fun k => k = pb) w w' := by
  have c17 : w.cell? ⟨pb, 17, none⟩ = some (.slice s.pca 0 s.pcc) := h.at 17
  have f17 := h.fr 17
  have HA := Lib.hid h
  clear h
  go_enter Tryz.func41, Tryz.ntmps41
  go_wp2_with fail
  go_loopg [18] 0 (fun _ v18 wr => v18 = .int .i64 0 ∧ w = wr)
  case atStart => exact ⟨rfl, rfl⟩
  case round =>
    obtain ⟨rfl, rfl⟩ := hrel
    go_wp2
    go_end0
    exact ⟨rfl, HA.out.set rfl, (Upd.refl (fun k => k = pb) w).setCell (p := ⟨pb, 17, none⟩) (.inl rfl) _⟩

set_option maxRecDepth 100000 in
set_option maxHeartbeats 1000000 in
theorem pe_comments {pb : Nat} {w : World} {wv tv cv : Value} {s : PS} (h : PCell pb w wv tv cv s) :
    Calls Tryz.prog 51 #[.pointer (some ⟨pb, 0, none⟩), .slice none 0 0] w fun e w' => e = .returned (.tuple #[]) ∧ PCell pb w' wv tv cv s ∧ Upd (fun k => k = pb) w w' := by
  have c10 : w.cell? ⟨pb, 10, none⟩ = some (.bool s.mi) := h.at 10
  have c17 : w.cell? ⟨pb, 17, none⟩ = some (.slice s.pca 0 s.pcc) := h.at 17
  have f17 := h.fr 17
  have happ : ∀ W, (Builtin.append_ #[85, 85] 85 #[.slice s.pca 0 s.pcc, .slice none 0 0]).run Tryz.prog W = .ok (.slice s.pca 0 s.pcc) W := fun W => by
    obtain ⟨i, hi⟩ : ∃ i, Tryz.prog.info? 124 = some i := ⟨_, rfl⟩
    cases s.pca <;> simp [Builtin.append_, run_underlying Tryz.underlying85, sizeOf, typeInfo, hi, Builtin.lenOf, run_firstCells_none, storeCells]
  have HApp := Lib.hid happ
  have HA := Lib.hid h
  clear h happ
  cases hmi : s.mi
  · go_enter Tryz.func51, Tryz.ntmps51
    go_wp2_with (at_builtin; refine wpList_append_run rfl _ _ _ rfl rfl rfl (HApp.out _) ?_)
    go_end0
    exact ⟨rfl, HA.out.set rfl, (Upd.refl (fun k => k = pb) w).setCell (p := ⟨pb, 17, none⟩) (.inl rfl) _⟩
  · go_enter Tryz.func51, Tryz.ntmps51
    go_wp2_with fail
    go_loopg [12] 0 (fun _ v12 wr => v12 = .int .i64 0 ∧ w = wr)
    case atStart => exact ⟨rfl, rfl⟩
    case round =>
      obtain ⟨rfl, rfl⟩ := hrel
      go_wp2
      refine bodyPost_ret (v := .tuple #[]) (results_none rfl _ _ _) rfl ?_
      exact ⟨rfl, HA.out, Upd.refl _ w⟩

set_option maxRecDepth 100000 in
set_option maxHeartbeats 1000000 in
theorem pe_stmtList {pb : Nat} {w : World} {wv tv cv : Value} {s : PS} (h : PCell pb w wv tv cv s) :
    Calls Tryz.prog 31 #[.pointer (some ⟨pb, 0, none⟩), .slice none 0 0, .slice none 0 0] w fun e w' => e = .returned (.tuple #[]) ∧ PCell pb w' wv tv cv s ∧ Upd (fun k => k = pb) w w' := by
  have c14 : w.cell? ⟨pb, 14, none⟩ = some (.bool s.wn) := h.at 14
  have hk : PCell pb w.drew wv tv cv s := h
  obtain ⟨Q, HQ, HC⟩ := callsVar (pe_comments hk)
  have HA := Lib.hid h
  clear h hk
  cases hwn : s.wn <;> (
  go_enter Tryz.func31, Tryz.ntmps31
  go_wp2_with fail
  go_region
  go_wp2_with fail
  go_loopg [37] 0 (fun _ v37 wr => v37 = .int .i64 0 ∧ w.drew = wr)
  case atStart => exact ⟨rfl, rfl⟩
  case round =>
    obtain ⟨rfl, rfl⟩ := hrel
    go_wp2_with (go_at_call 51; refine HC.out.mono ?_)
    rintro e w1 hq
    obtain ⟨rfl, h1, h2⟩ := HQ.out e w1 hq
    clear hq
    have H1 := Lib.hid h1
    have H2 := Lib.hid h2
    clear h1 h2
    go_wp2
    go_end0
    exact ⟨rfl, H1.out, (Upd.refl _ w).drew.trans H2.out⟩)
end Go.Proofs.YtnhmgjgdkcgmfaaGreatFmt
