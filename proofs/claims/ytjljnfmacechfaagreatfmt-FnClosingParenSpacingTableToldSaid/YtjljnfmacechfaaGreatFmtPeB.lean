/-
  The Printer's methods that Print of an empty file goes through: reset, comments, stmtList, flushHeredocs, flushComments.
-/
import Derived.Test.YtjljnfmacechfaaGreatFmtPeA
namespace Go.Proofs.YtjljnfmacechfaaGreatFmt
open Go.RowKit

section
variable {pb : Nat} {w : World} {wv tv cv : Value} {s : PS}

/-- The Printer lies at block pb. -/
def PCell (pb : Nat) (w : World) (wv tv cv : Value) (s : PS) : Prop := w.heap[pb]? = some (.cells (s.cells wv tv cv) 95 (0, 0))

theorem PCell.at (h : PCell pb w wv tv cv s) (j : Nat) : w.cell? ⟨pb, j, none⟩ = (s.cells wv tv cv)[j]? := cell_at h j
theorem PCell.fr (h : PCell pb w wv tv cv s) (j : Nat) : w.frozen? ⟨pb, j, none⟩ = false := frozen_at h j
theorem PCell.set (h : PCell pb w wv tv cv s) {i : Nat} {v : Value} {s' : PS} (he : (s.cells wv tv cv).setIfInBounds i v = s'.cells wv tv cv) : PCell pb (w.setCell ⟨pb, i, none⟩ v) wv tv cv s' := by
  have := heap_setCell_at (i := i) v h
  rwa [he] at this
theorem PCell.keep {F : Nat → Prop} {w' : World} (h : PCell pb w wv tv cv s) (hu : Upd F w w') (hn : ¬ F pb) : PCell pb w' wv tv cv s := hu.heap h hn
theorem PCell.set_at {v : Value} {p : Addr} (h : PCell pb w wv tv cv s) (hp : ¬ pb = p.block) : PCell pb (w.setCell p v) wv tv cv s := (Below.heap_setCell _ _ _ _ hp).trans h
end

/-- The state that reset makes. -/
def PS.rst (s : PS) : PS := { s with ws := 2, wn := false, mn := false, fl := !s.mi, ln := 0, ll := 0, lv := 0, lin := 0, nb := false }

set_option maxRecDepth 100000 in
set_option maxHeartbeats 1000000 in
theorem pe_fh {pb : Nat} {w : World} {wv tv cv : Value} {s : PS} (h : PCell pb w wv tv cv s) :
    Calls Tryz.prog 30 #[.pointer (some ⟨pb, 0, none⟩)] w fun e w' => e = .returned (.tuple #[]) ∧ w' = w := by
  have c24 : w.cell? ⟨pb, 24, none⟩ = some (.slice s.pha 0 s.phc) := h.at 24
  clear h
  go_enter Tryz.func30, Tryz.ntmps30
  go_wp2
  refine bodyPost_ret (v := .tuple #[]) (results_none rfl _ _ _) rfl ?_
  exact ⟨rfl, rfl⟩

/-- The state that flushComments makes. -/
def PS.noCom (s : PS) : PS := { s with pca := none, pcc := 0 }

set_option maxRecDepth 100000 in
set_option maxHeartbeats 1000000 in
theorem pe_fc {pb : Nat} {w : World} {wv tv cv : Value} {s : PS} (h : PCell pb w wv tv cv s) :
    Calls Tryz.prog 31 #[.pointer (some ⟨pb, 0, none⟩)] w fun e w' => e = .returned (.tuple #[]) ∧ PCell pb w' wv tv cv s.noCom ∧ Upd (fun k => k = pb) w w' := by
  have c17 : w.cell? ⟨pb, 17, none⟩ = some (.slice s.pca 0 s.pcc) := h.at 17
  have f17 := h.fr 17
  have HA := Lib.hid h
  clear h
  go_enter Tryz.func31, Tryz.ntmps31
  go_wp2_with fail
  go_loopg [18] 0 (fun _ v18 wr => v18 = .int .i64 0 ∧ w = wr)
  case atStart => exact ⟨rfl, rfl⟩
  case round =>
    obtain ⟨rfl, rfl⟩ := hrel
    go_wp2
    go_end0
    exact ⟨rfl, HA.out.set rfl, (Upd.refl (fun k => k = pb) w).setCell (p := ⟨pb, 17, none⟩) (.inl rfl) _⟩

set_option maxRecDepth 100000 in
set_option maxHeartbeats 1000000 in
theorem pe_comments {pb : Nat} {w : World} {wv tv cv : Value} {s : PS} (h : PCell pb w wv tv cv s) :
    Calls Tryz.prog 99 #[.pointer (some ⟨pb, 0, none⟩), .slice none 0 0] w fun e w' => e = .returned (.tuple #[]) ∧ PCell pb w' wv tv cv s ∧ Upd (fun k => k = pb) w w' := by
  have c10 : w.cell? ⟨pb, 10, none⟩ = some (.bool s.mi) := h.at 10
  have c17 : w.cell? ⟨pb, 17, none⟩ = some (.slice s.pca 0 s.pcc) := h.at 17
  have f17 := h.fr 17
  have happ : ∀ W, (Builtin.append_ #[37, 37] 37 #[.slice s.pca 0 s.pcc, .slice none 0 0]).run Tryz.prog W = .ok (.slice s.pca 0 s.pcc) W := fun W => by
    obtain ⟨i, hi⟩ : ∃ i, Tryz.prog.info? 118 = some i := ⟨_, rfl⟩
    cases s.pca <;> simp [Builtin.append_, run_underlying Tryz.underlying37, sizeOf, typeInfo, hi, Builtin.lenOf, run_firstCells_none, storeCells]
  have HApp := Lib.hid happ
  have HA := Lib.hid h
  clear h happ
  cases hmi : s.mi
  · go_enter Tryz.func99, Tryz.ntmps99
    go_wp2_with (at_builtin; refine wpList_append_run rfl _ _ _ rfl rfl rfl (HApp.out _) ?_)
    go_end0
    exact ⟨rfl, HA.out.set rfl, (Upd.refl (fun k => k = pb) w).setCell (p := ⟨pb, 17, none⟩) (.inl rfl) _⟩
  · go_enter Tryz.func99, Tryz.ntmps99
    go_wp2_with fail
    go_loopg [12] 0 (fun _ v12 wr => v12 = .int .i64 0 ∧ w = wr)
    case atStart => exact ⟨rfl, rfl⟩
    case round =>
      obtain ⟨rfl, rfl⟩ := hrel
      go_wp2
      refine bodyPost_ret (v := .tuple #[]) (results_none rfl _ _ _) rfl ?_
      exact ⟨rfl, HA.out, Upd.refl _ w⟩

set_option maxRecDepth 100000 in
set_option maxHeartbeats 1000000 in
theorem pe_stmtList {pb : Nat} {w : World} {wv tv cv : Value} {s : PS} (h : PCell pb w wv tv cv s) :
    Calls Tryz.prog 86 #[.pointer (some ⟨pb, 0, none⟩), .slice none 0 0, .slice none 0 0] w fun e w' => e = .returned (.tuple #[]) ∧ PCell pb w' wv tv cv s ∧ Upd (fun k => k = pb) w w' := by
  have c14 : w.cell? ⟨pb, 14, none⟩ = some (.bool s.wn) := h.at 14
  have hk : PCell pb w.drew wv tv cv s := h
  obtain ⟨Q, HQ, HC⟩ := callsVar (pe_comments hk)
  have HA := Lib.hid h
  clear h hk
  cases hwn : s.wn <;> (
  go_enter Tryz.func86, Tryz.ntmps86
  go_wp2_with fail
  go_region
  go_wp2_with fail
  go_loopg [37] 0 (fun _ v37 wr => v37 = .int .i64 0 ∧ w.drew = wr)
  case atStart => exact ⟨rfl, rfl⟩
  case round =>
    obtain ⟨rfl, rfl⟩ := hrel
    go_wp2_with (go_at_call 99; refine HC.out.mono ?_)
    rintro e w1 hq
    obtain ⟨rfl, h1, h2⟩ := HQ.out e w1 hq
    clear hq
    have H1 := Lib.hid h1
    have H2 := Lib.hid h2
    clear h1 h2
    go_wp2
    go_end0
    exact ⟨rfl, H1.out, (Upd.refl _ w).drew.trans H2.out⟩)
end Go.Proofs.YtjljnfmacechfaaGreatFmt
