/-
  The Printer between two prints; bufio.Writer made over nothing, and Reset; the column counter.
  The Printer's methods that Print of an empty file goes through: reset, comments, stmtList, flushHeredocs, flushComments.
  tabwriter.Writer: Flush, whatever text waits; the tabwriter has no WriteString.
-/
import Derived.Test.YtmdkpihlhdjjaaaGreatFmtKTwOX
import Derived.Test.YtmdkpihlhdjjaaaGreatFmtKMbX
import Derived.Test.YtmdkpihlhdjjaaaGreatFmtKTwMX
import Derived.Test.YtmdkpihlhdjjaaaGreatFmtKBufDX
import Derived.Stop.Asserts
namespace Go.Proofs.YtmdkpihlhdjjaaaGreatFmt
open Go.RowKit

/-- The state of a Printer that holds no comments and no heredocs. -/
structure PS where
  cc : Int
  cl : Bool
  k : Nat
  bnl : Bool
  swt : Bool
  spr : Bool
  kp : Bool
  mi : Bool
  si : Bool
  fnl : Bool
  ws : Nat
  wn : Bool
  mn : Bool
  sm : Bool
  pca : Option Addr
  pcc : Nat
  fl : Bool
  ln : Nat
  ll : Nat
  lv : Nat
  lia : Option Addr
  lin : Nat
  lic : Nat
  nb : Bool
  pha : Option Addr
  phc : Nat
  tp : Value

/-- The struct's cells: wv is the writer, tv the tabwriter, cv the column counter's writer. -/
def PS.cells (s : PS) (wv tv cv : Value) : Array Value :=
  #[wv, tv, cv, .int .i64 s.cc, .bool s.cl, .int .u64 (s.k : Int), .bool s.bnl, .bool s.swt, .bool s.spr, .bool s.kp, .bool s.mi, .bool s.si, .bool s.fnl,
    .int .u8 (s.ws : Int), .bool s.wn, .bool s.mn, .bool s.sm, .slice s.pca 0 s.pcc, .bool s.fl, .int .u64 (s.ln : Int), .int .u64 (s.ll : Int), .int .u64 (s.lv : Int), .slice s.lia s.lin s.lic, .bool s.nb, .slice s.pha 0 s.phc, s.tp]

/-- A bufio.Writer with an empty error and a buffer of its own. -/
def BufRaw (b g : Nat) (w : World) : Prop := ∃ e n wr cur, w.heap[b]? = some (.cells #[e, .slice (some ⟨g, 0, none⟩) 4096 4096, .int .i64 n, wr] 285 (0, 0)) ∧ w.heap[g]? = some (.cells cur 5 (0, 0)) ∧ cur.size = 4096 ∧ b ≠ g

theorem BufRaw.stable {b g : Nat} {w w' : World} {F : Nat → Prop} (h : BufRaw b g w) (hu : Upd F w w') (hb : ¬ F b) (hg : ¬ F g) : BufRaw b g w' := by
  obtain ⟨e, n, wr, cur, h1, h2, h3, h4⟩ := h
  exact ⟨e, n, wr, cur, hu.heap h1 hb, hu.heap h2 hg, h3, h4⟩

/-- The sink is no bufio.Writer, by comparison. -/
def Sink.NeBW (P : Program) (s : Sink) : Prop := ∀ (a : Addr) (w : World), (binOp .eql 75 (.iface 71 (.pointer (some a))) (.iface s.ty (.pointer (some s.ptr)))).run P w = .ok (.bool false) w

theorem tw_neBW (S : Sink) (tb twd fg : Nat) : (twSink S tb twd fg).NeBW Tryz.prog := fun a w => by kernel_rfl

/-- BufP with its buffer's block said. -/
def BufPg (s : Sink) (b g : Nat) (w : World) (Fs : Nat → Prop) (inner pend : List UInt8) : Prop :=
  ∃ (cur : Array Value),
    w.heap[b]? = some (.cells #[.nilIface, .slice (some ⟨g, 0, none⟩) 4096 4096, .int .i64 (pend.length : Int), .iface s.ty (.pointer (some s.ptr))] 285 (0, 0)) ∧
    w.heap[g]? = some (.cells cur 5 (0, 0)) ∧ cur.size = 4096 ∧ pend.length ≤ 4096 ∧ cur.toList.take pend.length = bv pend ∧ (∀ c ∈ pend, s.okb c = true) ∧
    s.I w Fs inner ∧ b ≠ g ∧ ¬ Fs b ∧ ¬ Fs g

set_option maxRecDepth 100000 in
set_option maxHeartbeats 1000000 in
theorem bw_reset {s : Sink} (hs : s.Law Tryz.prog 561) (hne : s.NeBW Tryz.prog) {b g : Nat} {w : World} {Fs : Nat → Prop} (h : BufRaw b g w) (hI : s.I w Fs []) (hFb : ¬ Fs b) (hFg : ¬ Fs g) :
    Calls Tryz.prog 240 #[.pointer (some ⟨b, 0, none⟩), .iface s.ty (.pointer (some s.ptr))] w fun e w' => e = .returned (.tuple #[]) ∧ BufPg s b g w' Fs [] [] ∧ Upd (fun k => k = b) w w' := by
  obtain ⟨e0, n0, wr, cur, hb, hg, hsz, hbg⟩ := h
  have c0 : w.cell? ⟨b, 0, none⟩ = some e0 := cell_at hb 0
  have c1 : w.cell? ⟨b, 1, none⟩ = some (.slice (some ⟨g, 0, none⟩) 4096 4096) := cell_at hb 1
  have c2 : w.cell? ⟨b, 2, none⟩ = some (.int .i64 n0) := cell_at hb 2
  have c3 : w.cell? ⟨b, 3, none⟩ = some wr := cell_at hb 3
  have f0 : w.frozen? ⟨b, 0, none⟩ = false := frozen_at hb 0
  have f2 : w.frozen? ⟨b, 2, none⟩ = false := frozen_at hb 2
  have f3 : w.frozen? ⟨b, 3, none⟩ = false := frozen_at hb 3
  have hcmp := hne ⟨b, 0, none⟩
  have hsl : ∀ w, (binOp .eql 31 (.slice (some ⟨g, 0, none⟩) 4096 4096) (.slice none 0 0)).run Tryz.prog w = .ok (.bool false) w := fun w => by kernel_rfl
  have hend : BufPg s b g (((w.setCell ⟨b, 0, none⟩ .nilIface).setCell ⟨b, 2, none⟩ (.int .i64 0)).setCell ⟨b, 3, none⟩ (.iface s.ty (.pointer (some s.ptr)))) Fs [] [] ∧
      Upd (fun k => k = b) w (((w.setCell ⟨b, 0, none⟩ .nilIface).setCell ⟨b, 2, none⟩ (.int .i64 0)).setCell ⟨b, 3, none⟩ (.iface s.ty (.pointer (some s.ptr)))) := by
    have hu : Upd (fun k => k = b) w (((w.setCell ⟨b, 0, none⟩ .nilIface).setCell ⟨b, 2, none⟩ (.int .i64 0)).setCell ⟨b, 3, none⟩ (.iface s.ty (.pointer (some s.ptr)))) :=
      Upd.setCell (F := fun k => k = b) (Upd.setCell (F := fun k => k = b) (Upd.setCell (F := fun k => k = b) (Upd.refl _ w) (p := ⟨b, 0, none⟩) (.inl rfl) _) (p := ⟨b, 2, none⟩) (.inl rfl) _) (p := ⟨b, 3, none⟩) (.inl rfl) _
    refine ⟨⟨cur, ?_, hu.heap hg (fun e => hbg e.symm), hsz, by simp, by simp, by simp, hs.stable hI hu fun k hk e => hFb (e ▸ hk), hbg, hFb, hFg⟩, hu⟩
    refine (heap_setCell_at _ (heap_setCell_at _ (heap_setCell_at _ hb))).trans ?_
    simp
  have HEnd := Lib.hid hend
  clear hend hb hg hsz hbg hI hFb hFg
  go_enter Tryz.func240, Tryz.ntmps240
  go_wp2
  go_end0
  exact ⟨rfl, HEnd.out⟩

set_option maxRecDepth 100000 in
set_option maxHeartbeats 1000000 in
theorem nws_nil (w : World) : Calls Tryz.prog 59 #[.nilIface, .int .i64 4096] w fun e w' => ∃ b g, e = .returned (.pointer (some ⟨b, 0, none⟩)) ∧ BufRaw b g w' ∧ w.heap.size ≤ b ∧ w.heap.size ≤ g ∧ Upd (fun _ => False) w w' := by
  have hta : ∀ w, (Instr.typeAssert .nilIface 75 71 true).run Tryz.prog w = .ok (.tuple #[.pointer none, .bool false]) w := fun w => by kernel_rfl
  obtain ⟨cur, hcs, hmk⟩ : ∃ cur : Array Value, cur.size = 4096 ∧ (Instr.makeSlice 31 (.int .i64 4096) (.int .i64 4096)).run Tryz.prog w = .ok (.slice (some ⟨w.heap.size, 0, none⟩) 4096 4096) (w.alloc (.cells cur 5)) := by
    obtain ⟨i, hi, hz, hsz, hby⟩ : ∃ i, Tryz.prog.info? 5 = some i ∧ i.zero = some (.int .u8 0) ∧ i.size = 1 ∧ i.bytes = 1 := ⟨_, rfl, rfl, rfl, rfl⟩
    refine ⟨_, ?_, run_make w 31 5 i _ Tryz.underlying31 hi hz .i64 .i64 4096 4096 (by decide) (by decide) (by rw [hby]; decide) (by decide)⟩
    rw [hsz]
    simp [madeCells, Value.cells]
  go_enter Tryz.func59, Tryz.ntmps59
  go_wp2
  go_ret
  have hu : Upd (fun _ => False) w ((w.alloc (.cells cur 5)).alloc (.cells #[.nilIface, .slice (some ⟨w.heap.size, 0, none⟩) 4096 4096, .int .i64 0, .nilIface] 285)) := ((Upd.refl _ w).alloc _).alloc _
  have hg : ((w.alloc (.cells cur 5)).alloc (.cells #[.nilIface, .slice (some ⟨w.heap.size, 0, none⟩) 4096 4096, .int .i64 0, .nilIface] 285)).heap[w.heap.size]? = some (.cells cur 5 (0, 0)) :=
    (Below.heap_alloc _ _ _ (by simp)).trans (heap_alloc_new w _)
  have hb := heap_alloc_new (w.alloc (.cells cur 5)) (.cells #[.nilIface, .slice (some ⟨w.heap.size, 0, none⟩) 4096 4096, .int .i64 0, .nilIface] 285)
  have hsz : (w.alloc (.cells cur 5)).heap.size = w.heap.size + 1 := by simp
  rw [hsz] at hb
  exact ⟨w.heap.size + 1, w.heap.size, rfl, ⟨_, _, _, cur, hb, hg, hcs, by omega⟩, by omega, Nat.le_refl _, hu⟩

theorem nw_nil (w : World) : Calls Tryz.prog 30 #[.nilIface] w fun e w' => ∃ b g, e = .returned (.pointer (some ⟨b, 0, none⟩)) ∧ BufRaw b g w' ∧ w.heap.size ≤ b ∧ w.heap.size ≤ g ∧ Upd (fun _ => False) w w' := by
  have H := Lib.hid (nws_nil w)
  go_enter Tryz.func30, Tryz.ntmps30
  go_wp2_with (go_at_call 59; refine H.out.mono ?_)
  rintro e w1 ⟨b, g, rfl, h⟩
  have H1 := Lib.hid h
  clear h
  go_wp2
  go_ret
  exact ⟨b, g, rfl, H1.out⟩

/-! The column counter's methods. -/
theorem cc_find : ∃ m, Array.find? (fun x => x.name == "Flush") Tryz.t281.methods = some m ∧ m.path = #[⟨86, 0, true⟩] ∧ m.func = some (239, true) := ⟨_, rfl, rfl, rfl⟩
theorem cc_meth_fl (pb b : Nat) : ∀ w : World, w.cell? ⟨pb, 2, none⟩ = some (.pointer (some ⟨b, 0, none⟩)) → (method 561 281 (.pointer (some ⟨pb, 2, none⟩)) "Flush").run Tryz.prog w = .ok (239, .pointer (some ⟨b, 0, none⟩)) w := fun w h => by
  have hu2 := Tryz.underlying86
  have hu3 := Tryz.underlying71
  obtain ⟨m, hm, hp, hf⟩ := cc_find
  unfold method
  simp [go_sem, hm, hp, hf, h, follow, run_underlying hu2, run_underlying hu3, receiverAt, Place.get]
theorem cc_ahead_fl (pb : Nat) : ∀ w : World, (nilAhead 561 281 (.pointer (some ⟨pb, 2, none⟩)) "Flush").run Tryz.prog w = .ok (some false) w := fun w => by
  have hu2 := Tryz.underlying86
  obtain ⟨m, hm, hp, hf⟩ := cc_find
  unfold nilAhead
  simp [go_sem, hm, hp, hf, followBlind, run_underlying hu2]
theorem cc_meth_wb (pb : Nat) : ∀ w, (method 561 281 (.pointer (some ⟨pb, 2, none⟩)) "WriteByte").run Tryz.prog w = .ok (343, .pointer (some ⟨pb, 2, none⟩)) w := fun w => by kernel_rfl
theorem cc_ahead_wb (pb : Nat) : ∀ w, (nilAhead 561 281 (.pointer (some ⟨pb, 2, none⟩)) "WriteByte").run Tryz.prog w = .ok (some false) w := fun w => by kernel_rfl
theorem cc_meth_rs (pb : Nat) : ∀ w, (method 561 281 (.pointer (some ⟨pb, 2, none⟩)) "Reset").run Tryz.prog w = .ok (341, .pointer (some ⟨pb, 2, none⟩)) w := fun w => by kernel_rfl
theorem cc_ahead_rs (pb : Nat) : ∀ w, (nilAhead 561 281 (.pointer (some ⟨pb, 2, none⟩)) "Reset").run Tryz.prog w = .ok (some false) w := fun w => by kernel_rfl
theorem bw_meth_wb (b : Nat) : ∀ w, (method 561 71 (.pointer (some ⟨b, 0, none⟩)) "WriteByte").run Tryz.prog w = .ok (242, .pointer (some ⟨b, 0, none⟩)) w := fun w => by kernel_rfl
theorem bw_ahead_wb (b : Nat) : ∀ w, (nilAhead 561 71 (.pointer (some ⟨b, 0, none⟩)) "WriteByte").run Tryz.prog w = .ok (some false) w := fun w => by kernel_rfl
theorem bw_meth_rs (b : Nat) : ∀ w, (method 561 71 (.pointer (some ⟨b, 0, none⟩)) "Reset").run Tryz.prog w = .ok (240, .pointer (some ⟨b, 0, none⟩)) w := fun w => by kernel_rfl
theorem bw_ahead_rs (b : Nat) : ∀ w, (nilAhead 561 71 (.pointer (some ⟨b, 0, none⟩)) "Reset").run Tryz.prog w = .ok (some false) w := fun w => by kernel_rfl
theorem bw_meth_fl (b : Nat) : ∀ w, (method 561 71 (.pointer (some ⟨b, 0, none⟩)) "Flush").run Tryz.prog w = .ok (239, .pointer (some ⟨b, 0, none⟩)) w := fun w => by kernel_rfl
theorem bw_ahead_fl (b : Nat) : ∀ w, (nilAhead 561 71 (.pointer (some ⟨b, 0, none⟩)) "Flush").run Tryz.prog w = .ok (some false) w := fun w => by kernel_rfl
end Go.Proofs.YtmdkpihlhdjjaaaGreatFmt

namespace Go.Proofs.YtmdkpihlhdjjaaaGreatFmt
open Go.RowKit

section
variable {pb : Nat} {w : World} {wv tv cv : Value} {s : PS}

/-- The Printer lies at block pb. -/
def PCell (pb : Nat) (w : World) (wv tv cv : Value) (s : PS) : Prop := w.heap[pb]? = some (.cells (s.cells wv tv cv) 92 (0, 0))

theorem PCell.at (h : PCell pb w wv tv cv s) (j : Nat) : w.cell? ⟨pb, j, none⟩ = (s.cells wv tv cv)[j]? := cell_at h j
theorem PCell.fr (h : PCell pb w wv tv cv s) (j : Nat) : w.frozen? ⟨pb, j, none⟩ = false := frozen_at h j
theorem PCell.set (h : PCell pb w wv tv cv s) {i : Nat} {v : Value} {s' : PS} (he : (s.cells wv tv cv).setIfInBounds i v = s'.cells wv tv cv) : PCell pb (w.setCell ⟨pb, i, none⟩ v) wv tv cv s' := by
  have := heap_setCell_at (i := i) v h
  rwa [he] at this
theorem PCell.keep {F : Nat → Prop} {w' : World} (h : PCell pb w wv tv cv s) (hu : Upd F w w') (hn : ¬ F pb) : PCell pb w' wv tv cv s := hu.heap h hn
theorem PCell.set_at {v : Value} {p : Addr} (h : PCell pb w wv tv cv s) (hp : ¬ pb = p.block) : PCell pb (w.setCell p v) wv tv cv s := (Below.heap_setCell _ _ _ _ hp).trans h
end

/-- The state that reset makes. -/
def PS.rst (s : PS) : PS := { s with ws := 2, wn := false, mn := false, fl := !s.mi, ln := 0, ll := 0, lv := 0, lin := 0, nb := false }

set_option maxRecDepth 100000 in
set_option maxHeartbeats 1000000 in
theorem pe_reset {pb : Nat} {w : World} {wv tv cv : Value} {s : PS} (h : PCell pb w wv tv cv s) (_ : s.lin ≤ s.lic) :
    Calls Tryz.prog 34 #[.pointer (some ⟨pb, 0, none⟩)] w fun e w' => e = .returned (.tuple #[]) ∧ PCell pb w' wv tv cv s.rst ∧ Upd (fun k => k = pb) w w' := by
  have c10 : w.cell? ⟨pb, 10, none⟩ = some (.bool s.mi) := h.at 10
  have c13 : w.cell? ⟨pb, 13, none⟩ = some (.int .u8 (s.ws : Int)) := h.at 13
  have c14 : w.cell? ⟨pb, 14, none⟩ = some (.bool s.wn) := h.at 14
  have c15 : w.cell? ⟨pb, 15, none⟩ = some (.bool s.mn) := h.at 15
  have c17 : w.cell? ⟨pb, 17, none⟩ = some (.slice s.pca 0 s.pcc) := h.at 17
  have c18 : w.cell? ⟨pb, 18, none⟩ = some (.bool s.fl) := h.at 18
  have c19 : w.cell? ⟨pb, 19, none⟩ = some (.int .u64 (s.ln : Int)) := h.at 19
  have c20 : w.cell? ⟨pb, 20, none⟩ = some (.int .u64 (s.ll : Int)) := h.at 20
  have c21 : w.cell? ⟨pb, 21, none⟩ = some (.int .u64 (s.lv : Int)) := h.at 21
  have c22 : w.cell? ⟨pb, 22, none⟩ = some (.slice s.lia s.lin s.lic) := h.at 22
  have c23 : w.cell? ⟨pb, 23, none⟩ = some (.bool s.nb) := h.at 23
  have c24 : w.cell? ⟨pb, 24, none⟩ = some (.slice s.pha 0 s.phc) := h.at 24
  have f13 := h.fr 13; have f14 := h.fr 14; have f15 := h.fr 15; have f17 := h.fr 17; have f18 := h.fr 18; have f19 := h.fr 19; have f20 := h.fr 20
  have f21 := h.fr 21; have f22 := h.fr 22; have f23 := h.fr 23; have f24 := h.fr 24
  have HA := Lib.hid h
  clear h
  go_enter Tryz.func34, Tryz.ntmps34
  go_wp2_with fail
  apply bodyPost_end (v := .tuple #[])
  · exact results_none rfl _ _ _
  · rfl
  refine ⟨rfl, ?_, ?_⟩
  · refine (heap_setCell_at _ (heap_setCell_at _ (heap_setCell_at _ (heap_setCell_at _ (heap_setCell_at _ (heap_setCell_at _ (heap_setCell_at _ (heap_setCell_at _ (heap_setCell_at _ (heap_setCell_at _ (heap_setCell_at _ HA.out))))))))))).trans ?_
    simp [PS.cells, PS.rst]
  · exact Upd.setCell (F := fun k => k = pb) (Upd.setCell (F := fun k => k = pb) (Upd.setCell (F := fun k => k = pb) (Upd.setCell (F := fun k => k = pb) (Upd.setCell (F := fun k => k = pb) (Upd.setCell (F := fun k => k = pb) (Upd.setCell (F := fun k => k = pb) (Upd.setCell (F := fun k => k = pb) (Upd.setCell (F := fun k => k = pb) (Upd.setCell (F := fun k => k = pb) (Upd.setCell (F := fun k => k = pb) (Upd.refl _ w)
      (by exact .inl rfl) _) (by exact .inl rfl) _) (by exact .inl rfl) _) (by exact .inl rfl) _) (by exact .inl rfl) _) (by exact .inl rfl) _) (by exact .inl rfl) _) (by exact .inl rfl) _) (by exact .inl rfl) _) (by exact .inl rfl) _) (by exact .inl rfl) _

set_option maxRecDepth 100000 in
set_option maxHeartbeats 1000000 in
theorem pe_fh {pb : Nat} {w : World} {wv tv cv : Value} {s : PS} (h : PCell pb w wv tv cv s) :
    Calls Tryz.prog 46 #[.pointer (some ⟨pb, 0, none⟩)] w fun e w' => e = .returned (.tuple #[]) ∧ w' = w := by
  have c24 : w.cell? ⟨pb, 24, none⟩ = some (.slice s.pha 0 s.phc) := h.at 24
  clear h
  go_enter Tryz.func46, Tryz.ntmps46
  go_wp2
  refine bodyPost_ret (v := .tuple #[]) (results_none rfl _ _ _) rfl ?_
  exact ⟨rfl, rfl⟩

/-- The state that flushComments makes. -/
def PS.noCom (s : PS) : PS := { s with pca := none, pcc := 0 }

set_option maxRecDepth 100000 in
set_option maxHeartbeats 1000000 in
theorem pe_fc {pb : Nat} {w : World} {wv tv cv : Value} {s : PS} (h : PCell pb w wv tv cv s) :
    Calls Tryz.prog 47 #[.pointer (some ⟨pb, 0, none⟩)] w fun e w' => e = .returned (.tuple #[]) ∧ PCell pb w' wv tv cv s.noCom ∧ Upd (fun k => k = pb) w w' := by
  have c17 : w.cell? ⟨pb, 17, none⟩ = some (.slice s.pca 0 s.pcc) := h.at 17
  have f17 := h.fr 17
  have HA := Lib.hid h
  clear h
  go_enter Tryz.func47, Tryz.ntmps47
  go_wp2_with fail
  go_loopg [18] 0 (fun _ v18 wr => v18 = .int .i64 0 ∧ w = wr)
  case atStart => exact ⟨rfl, rfl⟩
  case round =>
    obtain ⟨rfl, rfl⟩ := hrel
    go_wp2
    go_end0
    exact ⟨rfl, HA.out.set rfl, (Upd.refl (fun k => k = pb) w).setCell (p := ⟨pb, 17, none⟩) (.inl rfl) _⟩

set_option maxRecDepth 100000 in
set_option maxHeartbeats 1000000 in
theorem pe_comments {pb : Nat} {w : World} {wv tv cv : Value} {s : PS} (h : PCell pb w wv tv cv s) :
    Calls Tryz.prog 67 #[.pointer (some ⟨pb, 0, none⟩), .slice none 0 0] w fun e w' => e = .returned (.tuple #[]) ∧ PCell pb w' wv tv cv s ∧ Upd (fun k => k = pb) w w' := by
  have c10 : w.cell? ⟨pb, 10, none⟩ = some (.bool s.mi) := h.at 10
  have c17 : w.cell? ⟨pb, 17, none⟩ = some (.slice s.pca 0 s.pcc) := h.at 17
  have f17 := h.fr 17
  have happ : ∀ W, (Builtin.append_ #[88, 88] 88 #[.slice s.pca 0 s.pcc, .slice none 0 0]).run Tryz.prog W = .ok (.slice s.pca 0 s.pcc) W := fun W => by
    obtain ⟨i, hi⟩ : ∃ i, Tryz.prog.info? 42 = some i := ⟨_, rfl⟩
    cases s.pca <;> simp [Builtin.append_, run_underlying Tryz.underlying88, sizeOf, typeInfo, hi, Builtin.lenOf, run_firstCells_none, storeCells]
  have HApp := Lib.hid happ
  have HA := Lib.hid h
  clear h happ
  cases hmi : s.mi
  · go_enter Tryz.func67, Tryz.ntmps67
    go_wp2_with (at_builtin; refine wpList_append_run rfl _ _ _ rfl rfl rfl (HApp.out _) ?_)
    go_end0
    exact ⟨rfl, HA.out.set rfl, (Upd.refl (fun k => k = pb) w).setCell (p := ⟨pb, 17, none⟩) (.inl rfl) _⟩
  · go_enter Tryz.func67, Tryz.ntmps67
    go_wp2_with fail
    go_loopg [12] 0 (fun _ v12 wr => v12 = .int .i64 0 ∧ w = wr)
    case atStart => exact ⟨rfl, rfl⟩
    case round =>
      obtain ⟨rfl, rfl⟩ := hrel
      go_wp2
      refine bodyPost_ret (v := .tuple #[]) (results_none rfl _ _ _) rfl ?_
      exact ⟨rfl, HA.out, Upd.refl _ w⟩

set_option maxRecDepth 100000 in
set_option maxHeartbeats 1000000 in
theorem pe_stmtList {pb : Nat} {w : World} {wv tv cv : Value} {s : PS} (h : PCell pb w wv tv cv s) :
    Calls Tryz.prog 37 #[.pointer (some ⟨pb, 0, none⟩), .slice none 0 0, .slice none 0 0] w fun e w' => e = .returned (.tuple #[]) ∧ PCell pb w' wv tv cv s ∧ Upd (fun k => k = pb) w w' := by
  have c14 : w.cell? ⟨pb, 14, none⟩ = some (.bool s.wn) := h.at 14
  have hk : PCell pb w.drew wv tv cv s := h
  obtain ⟨Q, HQ, HC⟩ := callsVar (pe_comments hk)
  have HA := Lib.hid h
  clear h hk
  cases hwn : s.wn <;> (
  go_enter Tryz.func37, Tryz.ntmps37
  go_wp2_with fail
  go_region
  go_wp2_with fail
  go_loopg [37] 0 (fun _ v37 wr => v37 = .int .i64 0 ∧ w.drew = wr)
  case atStart => exact ⟨rfl, rfl⟩
  case round =>
    obtain ⟨rfl, rfl⟩ := hrel
    go_wp2_with (go_at_call 67; refine HC.out.mono ?_)
    rintro e w1 hq
    obtain ⟨rfl, h1, h2⟩ := HQ.out e w1 hq
    clear hq
    have H1 := Lib.hid h1
    have H2 := Lib.hid h2
    clear h1 h2
    go_wp2
    go_end0
    exact ⟨rfl, H1.out, (Upd.refl _ w).drew.trans H2.out⟩)
end Go.Proofs.YtmdkpihlhdjjaaaGreatFmt

namespace Go.Proofs.YtmdkpihlhdjjaaaGreatFmt
open Go.RowKit

theorem tw_noSW (S : Sink) (tb twd fg : Nat) : (twSink S tb twd fg).NoSW Tryz.prog := fun w => run_typeAssert_lacksB (t := 73) Tryz.underlying437 (by kernel_rfl) (by kernel_rfl) _ _ w

set_option maxRecDepth 100000 in
set_option maxHeartbeats 2000000 in
/-- flushNoDefers where text waits. -/
theorem tw_fnd_text {S : Sink} (hs : S.Law Tryz.prog 561) (hok : ∀ c, S.okb c = true) {tb : Nat} {w : World} {H : Nat → Prop} {inner t : List UInt8} {twd fg : Nat} (h : TwIdle S tb w H inner t twd fg) (hne : t ≠ []) (hl : inner.length + t.length + 1 ≤ LIM) :
    Calls Tryz.prog 158 #[.pointer (some ⟨tb, 0, none⟩)] w fun e w' => e = .returned (.tuple #[]) ∧ TwDone S tb H (inner ++ t) [] twd fg w w' := by
  have hLIM : LIM = 1099511627776 := rfl
  obtain ⟨G, Fs, hA, hH⟩ := h
  have hpos : 0 < t.length := List.length_pos_iff.2 hne
  have hcs : w.cell? ⟨tb, 15, none⟩ = some (.int .i64 (t.length : Int)) ∧ w.cell? ⟨tb, 18, none⟩ = some (.int .u8 0) := by
    obtain ⟨vb, vl, aw, cap, hb, _⟩ := hA
    exact ⟨cell_at hb 15, cell_at hb 18⟩
  obtain ⟨c15, c18⟩ := hcs
  have hposI : (0 : Int) < (t.length : Int) := by omega
  obtain ⟨Q0, HQ0, HC0⟩ := callsVar (tw_terminate hs hA)
  have HH := Lib.hid hH
  clear hA hH
  go_enter Tryz.func158, Tryz.ntmps158
  go_wp2_with (go_at_call 176; refine HC0.out.mono ?_)
  rintro e w1 hq
  obtain ⟨rfl, G1, hA1, hG1, hu1⟩ := HQ0.out e w1 hq
  clear hq
  have h' := hA1
  obtain ⟨vb, vl, aw, cap, hb, hr, hvb, ⟨L, capL, cur, v0, rfl, hL, _⟩, hI, hFt, hGt, hGF, hGl, hfg⟩ := hA1
  have c19 : w1.cell? ⟨tb, 19, none⟩ = some (.slice (some ⟨L, 0, none⟩) 1 capL) := cell_at hb 19
  obtain ⟨Q, HQ, HC⟩ := callsVar (tw_format h' (by simp) (.inl rfl) (tw_wl1n hs hok rfl hne h' hl))
  have HA := Lib.hid h'
  have HG1 := Lib.hid (And.intro hG1 hu1)
  clear hb hr hvb hL hI hFt hGt hGF hGl hfg h' hG1 hu1
  go_wp2_with (go_at_call 177; refine HC.out.mono ?_)
  rintro e w2 hq
  obtain ⟨rfl, F1, hI1, hF1, hU1⟩ := HQ.out e w2 hq
  clear hq
  obtain ⟨Q2, HQ2, HC2⟩ := callsVar (tw_reset hs (HA.out.wrote hs hI1 hF1 hU1).pre)
  have HF1 := Lib.hid hF1
  have HU1 := Lib.hid hU1
  clear hI1 hF1 hU1
  go_wp2_with (go_at_call 62; refine HC2.out.mono ?_)
  rintro e w3 hq
  obtain ⟨rfl, G2, hA2, hG2, hU2⟩ := HQ2.out e w3 hq
  clear hq
  have HEnd : RowKit.Hid (TwDone S tb H (inner ++ t) [] twd fg w w3) := by
    obtain ⟨hG1, hu1⟩ := HG1.out
    have hz1 := hu1.size
    have hz2 := HU1.out.size
    have hg1 : ∀ k, G1 k → H k ∨ w.heap.size ≤ k := fun k hk => (hG1 k hk).imp (fun h => (HH.out k).2 (.inr (.inl h))) id
    have hf1 : ∀ k, Fs k → H k := fun k hk => (HH.out k).2 (.inr (.inr hk))
    have htb : H tb := (HH.out tb).2 (.inl rfl)
    refine ⟨fun k => k = tb ∨ G2 k ∨ F1 k, ⟨G2, F1, hA2, fun k => Iff.rfl⟩, fun k hk => ?_, ?_⟩
    · rcases hk with hk | hk | hk
      · exact .inl (hk ▸ htb)
      · rcases hG2 k hk with h | h
        · exact hg1 k h
        · exact .inr (by omega)
      · rcases HF1.out k hk with h | h
        · exact .inl (hf1 k h)
        · exact .inr (by omega)
    · refine ((hu1.mono (G := H) fun k hk => ?_).trans (HU1.out.mono hf1)).trans' hU2 fun k hk => ?_
      · rcases hk with h | h
        · exact h ▸ htb
        · exact (HH.out k).2 (.inr (.inl h))
      · rcases hk with h | h
        · exact .inl (h ▸ htb)
        · exact hg1 k h
  clear hA2 hG2 hU2
  go_wp2
  go_end0
  exact ⟨rfl, HEnd.out⟩

/-- flushNoDefers, whatever waits. -/
theorem tw_fnd_any {S : Sink} (hs : S.Law Tryz.prog 561) (hok : ∀ c, S.okb c = true) {tb : Nat} {w : World} {H : Nat → Prop} {inner t : List UInt8} {twd fg : Nat} (h : TwIdle S tb w H inner t twd fg) (hl : inner.length + t.length + 1 ≤ LIM) :
    Calls Tryz.prog 158 #[.pointer (some ⟨tb, 0, none⟩)] w fun e w' => e = .returned (.tuple #[]) ∧ TwDone S tb H (inner ++ t) [] twd fg w w' := by
  by_cases h0 : t = []
  · subst h0
    rw [List.append_nil]
    exact tw_fnd_empty hs hok h (by simp at hl; omega)
  · exact tw_fnd_text hs hok h h0 hl
end Go.Proofs.YtmdkpihlhdjjaaaGreatFmt
