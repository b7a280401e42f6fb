/-
  The Printer between two prints; bufio.Writer made over nothing, and Reset; the column counter.
-/
import Derived.Test.YtjljnfmacechfaaGreatFmtTl
import Derived.Test.YtjljnfmacechfaaGreatFmtMb
namespace Go.Proofs.YtjljnfmacechfaaGreatFmt
open Go.RowKit

/-- The state of a Printer that holds no comments and no heredocs. -/
structure PS where
  cc : Int
  cl : Bool
  k : Nat
  bnl : Bool
  swt : Bool
  spr : Bool
  kp : Bool
  mi : Bool
  si : Bool
  fnl : Bool
  ws : Nat
  wn : Bool
  mn : Bool
  sm : Bool
  pca : Option Addr
  pcc : Nat
  fl : Bool
  ln : Nat
  ll : Nat
  lv : Nat
  lia : Option Addr
  lin : Nat
  lic : Nat
  nb : Bool
  pha : Option Addr
  phc : Nat
  tp : Value

/-- The struct's cells: wv is the writer, tv the tabwriter, cv the column counter's writer. -/
def PS.cells (s : PS) (wv tv cv : Value) : Array Value :=
  #[wv, tv, cv, .int .i64 s.cc, .bool s.cl, .int .u64 (s.k : Int), .bool s.bnl, .bool s.swt, .bool s.spr, .bool s.kp, .bool s.mi, .bool s.si, .bool s.fnl,
    .int .u8 (s.ws : Int), .bool s.wn, .bool s.mn, .bool s.sm, .slice s.pca 0 s.pcc, .bool s.fl, .int .u64 (s.ln : Int), .int .u64 (s.ll : Int), .int .u64 (s.lv : Int), .slice s.lia s.lin s.lic, .bool s.nb, .slice s.pha 0 s.phc, s.tp]

/-- A bufio.Writer with an empty error and a buffer of its own. -/
def BufRaw (b g : Nat) (w : World) : Prop := ∃ e n wr cur, w.heap[b]? = some (.cells #[e, .slice (some ⟨g, 0, none⟩) 4096 4096, .int .i64 n, wr] 114 (0, 0)) ∧ w.heap[g]? = some (.cells cur 5 (0, 0)) ∧ cur.size = 4096 ∧ b ≠ g

theorem BufRaw.stable {b g : Nat} {w w' : World} {F : Nat → Prop} (h : BufRaw b g w) (hu : Upd F w w') (hb : ¬ F b) (hg : ¬ F g) : BufRaw b g w' := by
  obtain ⟨e, n, wr, cur, h1, h2, h3, h4⟩ := h
  exact ⟨e, n, wr, cur, hu.heap h1 hb, hu.heap h2 hg, h3, h4⟩

/-- The sink is no bufio.Writer, by comparison. -/
def Sink.NeBW (P : Program) (s : Sink) : Prop := ∀ (a : Addr) (w : World), (binOp .eql 106 (.iface 85 (.pointer (some a))) (.iface s.ty (.pointer (some s.ptr)))).run P w = .ok (.bool false) w


/-- BufP with its buffer's block said. -/
def BufPg (s : Sink) (b g : Nat) (w : World) (Fs : Nat → Prop) (inner pend : List UInt8) : Prop :=
  ∃ (cur : Array Value),
    w.heap[b]? = some (.cells #[.nilIface, .slice (some ⟨g, 0, none⟩) 4096 4096, .int .i64 (pend.length : Int), .iface s.ty (.pointer (some s.ptr))] 114 (0, 0)) ∧
    w.heap[g]? = some (.cells cur 5 (0, 0)) ∧ cur.size = 4096 ∧ pend.length ≤ 4096 ∧ cur.toList.take pend.length = bv pend ∧ (∀ c ∈ pend, s.okb c = true) ∧
    s.I w Fs inner ∧ b ≠ g ∧ ¬ Fs b ∧ ¬ Fs g

set_option maxRecDepth 100000 in
set_option maxHeartbeats 1000000 in
theorem nws_nil (w : World) : Calls Tryz.prog 25 #[.nilIface, .int .i64 4096] w fun e w' => ∃ b g, e = .returned (.pointer (some ⟨b, 0, none⟩)) ∧ BufRaw b g w' ∧ w.heap.size ≤ b ∧ w.heap.size ≤ g ∧ Upd (fun _ => False) w w' := by
  have hta : ∀ w, (Instr.typeAssert .nilIface 106 85 true).run Tryz.prog w = .ok (.tuple #[.pointer none, .bool false]) w := fun w => by kernel_rfl
  obtain ⟨cur, hcs, hmk⟩ : ∃ cur : Array Value, cur.size = 4096 ∧ (Instr.makeSlice 22 (.int .i64 4096) (.int .i64 4096)).run Tryz.prog w = .ok (.slice (some ⟨w.heap.size, 0, none⟩) 4096 4096) (w.alloc (.cells cur 5)) := by
    obtain ⟨i, hi, hz, hsz, hby⟩ : ∃ i, Tryz.prog.info? 5 = some i ∧ i.zero = some (.int .u8 0) ∧ i.size = 1 ∧ i.bytes = 1 := ⟨_, rfl, rfl, rfl, rfl⟩
    refine ⟨_, ?_, run_make w 22 5 i _ Tryz.underlying22 hi hz .i64 .i64 4096 4096 (by decide) (by decide) (by rw [hby]; decide) (by decide)⟩
    rw [hsz]
    simp [madeCells, Value.cells]
  go_enter Tryz.func25, Tryz.ntmps25
  go_wp2
  go_ret
  have hu : Upd (fun _ => False) w ((w.alloc (.cells cur 5)).alloc (.cells #[.nilIface, .slice (some ⟨w.heap.size, 0, none⟩) 4096 4096, .int .i64 0, .nilIface] 114)) := ((Upd.refl _ w).alloc _).alloc _
  have hg : ((w.alloc (.cells cur 5)).alloc (.cells #[.nilIface, .slice (some ⟨w.heap.size, 0, none⟩) 4096 4096, .int .i64 0, .nilIface] 114)).heap[w.heap.size]? = some (.cells cur 5 (0, 0)) :=
    (Below.heap_alloc _ _ _ (by simp)).trans (heap_alloc_new w _)
  have hb := heap_alloc_new (w.alloc (.cells cur 5)) (.cells #[.nilIface, .slice (some ⟨w.heap.size, 0, none⟩) 4096 4096, .int .i64 0, .nilIface] 114)
  have hsz : (w.alloc (.cells cur 5)).heap.size = w.heap.size + 1 := by simp
  rw [hsz] at hb
  exact ⟨w.heap.size + 1, w.heap.size, rfl, ⟨_, _, _, cur, hb, hg, hcs, by omega⟩, by omega, Nat.le_refl _, hu⟩

theorem nw_nil (w : World) : Calls Tryz.prog 17 #[.nilIface] w fun e w' => ∃ b g, e = .returned (.pointer (some ⟨b, 0, none⟩)) ∧ BufRaw b g w' ∧ w.heap.size ≤ b ∧ w.heap.size ≤ g ∧ Upd (fun _ => False) w w' := by
  have H := Lib.hid (nws_nil w)
  go_enter Tryz.func17, Tryz.ntmps17
  go_wp2_with (go_at_call 25; refine H.out.mono ?_)
  rintro e w1 ⟨b, g, rfl, h⟩
  have H1 := Lib.hid h
  clear h
  go_wp2
  go_ret
  exact ⟨b, g, rfl, H1.out⟩

/-! The column counter's methods. -/
theorem cc_find : ∃ m, Array.find? (fun x => x.name == "Flush") Tryz.t96.methods = some m ∧ m.path = #[⟨92, 0, true⟩] ∧ m.func = some (214, true) := ⟨_, rfl, rfl, rfl⟩
theorem cc_meth_fl (pb b : Nat) : ∀ w : World, w.cell? ⟨pb, 2, none⟩ = some (.pointer (some ⟨b, 0, none⟩)) → (method 529 96 (.pointer (some ⟨pb, 2, none⟩)) "Flush").run Tryz.prog w = .ok (214, .pointer (some ⟨b, 0, none⟩)) w := fun w h => by
  have hu2 := Tryz.underlying92
  have hu3 := Tryz.underlying85
  obtain ⟨m, hm, hp, hf⟩ := cc_find
  unfold method
  simp [go_sem, hm, hp, hf, h, follow, run_underlying hu2, run_underlying hu3, receiverAt, Place.get]
theorem cc_ahead_fl (pb : Nat) : ∀ w : World, (nilAhead 529 96 (.pointer (some ⟨pb, 2, none⟩)) "Flush").run Tryz.prog w = .ok (some false) w := fun w => by
  have hu2 := Tryz.underlying92
  obtain ⟨m, hm, hp, hf⟩ := cc_find
  unfold nilAhead
  simp [go_sem, hm, hp, hf, followBlind, run_underlying hu2]
theorem cc_meth_wb (pb : Nat) : ∀ w, (method 529 96 (.pointer (some ⟨pb, 2, none⟩)) "WriteByte").run Tryz.prog w = .ok (246, .pointer (some ⟨pb, 2, none⟩)) w := fun w => by kernel_rfl
theorem cc_ahead_wb (pb : Nat) : ∀ w, (nilAhead 529 96 (.pointer (some ⟨pb, 2, none⟩)) "WriteByte").run Tryz.prog w = .ok (some false) w := fun w => by kernel_rfl
theorem cc_meth_rs (pb : Nat) : ∀ w, (method 529 96 (.pointer (some ⟨pb, 2, none⟩)) "Reset").run Tryz.prog w = .ok (244, .pointer (some ⟨pb, 2, none⟩)) w := fun w => by kernel_rfl
theorem cc_ahead_rs (pb : Nat) : ∀ w, (nilAhead 529 96 (.pointer (some ⟨pb, 2, none⟩)) "Reset").run Tryz.prog w = .ok (some false) w := fun w => by kernel_rfl
theorem bw_meth_wb (b : Nat) : ∀ w, (method 529 85 (.pointer (some ⟨b, 0, none⟩)) "WriteByte").run Tryz.prog w = .ok (215, .pointer (some ⟨b, 0, none⟩)) w := fun w => by kernel_rfl
theorem bw_ahead_wb (b : Nat) : ∀ w, (nilAhead 529 85 (.pointer (some ⟨b, 0, none⟩)) "WriteByte").run Tryz.prog w = .ok (some false) w := fun w => by kernel_rfl
theorem bw_meth_rs (b : Nat) : ∀ w, (method 529 85 (.pointer (some ⟨b, 0, none⟩)) "Reset").run Tryz.prog w = .ok (242, .pointer (some ⟨b, 0, none⟩)) w := fun w => by kernel_rfl
theorem bw_ahead_rs (b : Nat) : ∀ w, (nilAhead 529 85 (.pointer (some ⟨b, 0, none⟩)) "Reset").run Tryz.prog w = .ok (some false) w := fun w => by kernel_rfl
theorem bw_meth_fl (b : Nat) : ∀ w, (method 529 85 (.pointer (some ⟨b, 0, none⟩)) "Flush").run Tryz.prog w = .ok (214, .pointer (some ⟨b, 0, none⟩)) w := fun w => by kernel_rfl
theorem bw_ahead_fl (b : Nat) : ∀ w, (nilAhead 529 85 (.pointer (some ⟨b, 0, none⟩)) "Flush").run Tryz.prog w = .ok (some false) w := fun w => by kernel_rfl
end Go.Proofs.YtjljnfmacechfaaGreatFmt
