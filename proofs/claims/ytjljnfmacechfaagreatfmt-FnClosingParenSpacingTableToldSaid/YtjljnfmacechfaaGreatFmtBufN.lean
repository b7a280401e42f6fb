/-
  bufio.NewWriter over a lawful sink.
-/
import Derived.Test.YtjljnfmacechfaaGreatFmtMb
namespace Go.Proofs.YtjljnfmacechfaaGreatFmt
open Go.RowKit

/-- The sink is no bufio.Writer. -/
def Sink.NoBW (P : Program) (s : Sink) : Prop :=
  ∀ w, (Instr.typeAssert (.iface s.ty (.pointer (some s.ptr))) 106 85 true).run P w = .ok (.tuple #[.pointer none, .bool false]) w

set_option maxRecDepth 100000 in
set_option maxHeartbeats 1000000 in
theorem nws_any {s : Sink} (hs : s.Law Tryz.prog 529) (hnb : s.NoBW Tryz.prog) {w : World} {F : Nat → Prop} {l : List UInt8} (h : s.I w F l) :
    Calls Tryz.prog 25 #[.iface s.ty (.pointer (some s.ptr)), .int .i64 4096] w fun e w' => ∃ b F', e = .returned (.pointer (some ⟨b, 0, none⟩)) ∧ BufP s b w' F' l [] ∧ w.heap.size ≤ b ∧ (∀ k, F' k → F k ∨ w.heap.size ≤ k) ∧ Upd (fun _ => False) w w' := by
  have HI := Lib.hid h; clear h
  unfold Sink.NoBW at hnb
  obtain ⟨cur, hcs, hmk⟩ : ∃ cur : Array Value, cur.size = 4096 ∧ (Instr.makeSlice 22 (.int .i64 4096) (.int .i64 4096)).run Tryz.prog w = .ok (.slice (some ⟨w.heap.size, 0, none⟩) 4096 4096) (w.alloc (.cells cur 5)) := by
    obtain ⟨i, hi, hz, hsz, hby⟩ : ∃ i, Tryz.prog.info? 5 = some i ∧ i.zero = some (.int .u8 0) ∧ i.size = 1 ∧ i.bytes = 1 := ⟨_, rfl, rfl, rfl, rfl⟩
    refine ⟨_, ?_, run_make w 22 5 i _ Tryz.underlying22 hi hz .i64 .i64 4096 4096 (by decide) (by decide) (by rw [hby]; decide) (by decide)⟩
    rw [hsz]
    simp [madeCells, Value.cells]
  go_enter Tryz.func25, Tryz.ntmps25
  go_wp2
  go_ret
  have hu : Upd (fun _ => False) w ((w.alloc (.cells cur 5)).alloc (.cells #[.nilIface, .slice (some ⟨w.heap.size, 0, none⟩) 4096 4096, .int .i64 0, .iface s.ty (.pointer (some s.ptr))] 114)) := ((Upd.refl _ w).alloc _).alloc _
  have hlt : ∀ k, F k → k < w.heap.size := hs.lt HI.out
  have hg : ((w.alloc (.cells cur 5)).alloc (.cells #[.nilIface, .slice (some ⟨w.heap.size, 0, none⟩) 4096 4096, .int .i64 0, .iface s.ty (.pointer (some s.ptr))] 114)).heap[w.heap.size]? = some (.cells cur 5 (0, 0)) :=
    (Below.heap_alloc _ _ _ (by simp)).trans (heap_alloc_new w _)
  have hb := heap_alloc_new (w.alloc (.cells cur 5)) (.cells #[.nilIface, .slice (some ⟨w.heap.size, 0, none⟩) 4096 4096, .int .i64 0, .iface s.ty (.pointer (some s.ptr))] 114)
  have hsz : (w.alloc (.cells cur 5)).heap.size = w.heap.size + 1 := by simp
  rw [hsz] at hb
  refine ⟨w.heap.size + 1, fun k => k = w.heap.size + 1 ∨ k = w.heap.size ∨ F k, rfl, ⟨w.heap.size, cur, F, hb, hg, hcs, by simp, by simp, by simp, hs.stable HI.out hu (fun _ _ h => h), by omega, fun h => ?_, fun h => ?_, fun k => Iff.rfl⟩, by omega, ?_, hu⟩
  · have := hlt _ h; omega
  · have := hlt _ h; omega
  · rintro k (h | h | h)
    · exact .inr (by omega)
    · exact .inr (by omega)
    · exact .inl h

theorem nw_any {s : Sink} (hs : s.Law Tryz.prog 529) (hnb : s.NoBW Tryz.prog) {w : World} {F : Nat → Prop} {l : List UInt8} (h : s.I w F l) :
    Calls Tryz.prog 17 #[.iface s.ty (.pointer (some s.ptr))] w fun e w' => ∃ b F', e = .returned (.pointer (some ⟨b, 0, none⟩)) ∧ BufP s b w' F' l [] ∧ w.heap.size ≤ b ∧ (∀ k, F' k → F k ∨ w.heap.size ≤ k) ∧ Upd (fun _ => False) w w' := by
  have H := Lib.hid (nws_any hs hnb h)
  clear h hs hnb
  go_enter Tryz.func17, Tryz.ntmps17
  go_wp2_with (go_at_call 25; refine H.out.mono ?_)
  rintro e w1 ⟨b, F', rfl, h⟩
  have H1 := Lib.hid h
  clear h
  go_wp2
  go_ret
  exact ⟨b, F', rfl, H1.out⟩
end Go.Proofs.YtjljnfmacechfaaGreatFmt
