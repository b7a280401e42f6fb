/-
  n010_73.FnUnquotedWordUndoesEscaping: the walk.
-/
import Derived.Test.YtabpbmmkkolpbaaGreatFmtBufC
import Derived.Test.YtabpbmmkkolpbaaGreatFmtBufN
import Derived.Test.YtabpbmmkkolpbaaGreatFmtSbS
import Derived.Test.YtabpbmmkkolpbaaGreatFmtAsrt
import Derived.Deep.LoopGhost
namespace Go.Proofs.YtabpbmmkkolpbaaGreatFmt
open Go.RowKit

/-- Every byte with a backslash ahead. -/
def escL (l : List UInt8) : List UInt8 := l.flatMap fun c => [92, c]
theorem escL_length (l : List UInt8) : (escL l).length = 2 * l.length := by
  induction l with
  | nil => rfl
  | cons c l ih => simp only [escL, List.flatMap_cons, List.length_append, List.length_cons, List.length_nil] at ih ⊢; omega
theorem escL_get (l : List UInt8) (j : Nat) : (escL l)[2 * j]? = (l[j]?).map (fun _ => 92) ∧ (escL l)[2 * j + 1]? = l[j]? := by
  induction l generalizing j with
  | nil => simp [escL]
  | cons c l ih =>
    cases j with
    | zero => simp [escL]
    | succ j =>
      have h : escL (c :: l) = 92 :: c :: escL l := rfl
      have e1 : 2 * (j + 1) = 2 * j + 1 + 1 := by omega
      rw [h, e1]
      simpa using ih j

/-- A printer whose writer is the buffered writer b. -/
def PrW (w : World) (pb b : Nat) : Prop := w.cell? ⟨pb, 0, none⟩ = some (.iface 50 (.pointer (some ⟨b, 0, none⟩)))

set_option maxRecDepth 100000 in
set_option maxHeartbeats 2000000 in
theorem unq_lit {S : Sink} (hs : S.Law Tryz.prog 540) (hok : ∀ c, S.okb c = true) {pb b wb gp cap lb : Nat} {w : World} {F : Nat → Prop} {l sL : List UInt8} {esc : ByteArray}
    (hp : PrW w pb b) (hwd : w.cell? ⟨wb, 0, none⟩ = some (.slice (some ⟨gp, 0, none⟩) 1 cap)) (hgp : w.cell? ⟨gp, 0, none⟩ = some (.iface 65 (.pointer (some ⟨lb, 0, none⟩))))
    (hlb : w.cell? ⟨lb, 4, none⟩ = some (.string esc)) (hesc : esc.data.toList = escL sL) (hB : BufW S b w F l) (hFp : ¬ F pb) (hFl : ¬ F lb) (hlim : l.length + 2 * sL.length ≤ LIM) :
    Calls Tryz.prog 34 #[.pointer (some ⟨pb, 0, none⟩), .pointer (some ⟨wb, 0, none⟩)] w fun e w' => e = .returned (.tuple #[]) ∧ ∃ F', BufW S b w' F' (l ++ sL) ∧ (∀ k, F' k → F k ∨ w.heap.size ≤ k) ∧ Upd F w w' := by
  have HB := Lib.hid hB; clear hB
  have HE := Lib.hid hesc; clear hesc
  have HP := Lib.hid hp; clear hp
  have HWd := Lib.hid hwd
  have HGp := Lib.hid hgp; clear hgp
  have HLb := Lib.hid hlb; clear hlb
  have HLim := Lib.hid hlim; clear hlim
  go_enter Tryz.func34, Tryz.ntmps34
  go_wp2_with fail
  go_loopg [5, 6, 7, 8, 9, 10, 16] 1 (fun k _v5 _v6 _v7 _v8 _v9 _v10 v16 wr => (k = 1 ∧ v16 = .int .i64 0 ∧ w = wr) ∨ (k = 0 ∧ v16 = .int .i64 1 ∧ ∃ F', BufW S b wr F' (l ++ sL) ∧ (∀ k, F' k → F k ∨ w.heap.size ≤ k) ∧ Upd F w wr))
  case atStart => exact .inl ⟨rfl, rfl, rfl⟩
  case round =>
    rcases hrel with ⟨rfl, rfl, rfl⟩ | ⟨rfl, rfl, hend⟩
    · have c1 := HGp.out
      have ta1 := fun (v : Value) W => asrt_other (P := Tryz.prog) (t := 65) (xT := 106) Tryz.underlying59 (by kernel_rfl) rfl v W
      have ta2 := fun (v : Value) W => asrt_other (P := Tryz.prog) (t := 65) (xT := 106) Tryz.underlying108 (by kernel_rfl) rfl v W
      have ta3 := fun (v : Value) W => asrt_same (P := Tryz.prog) (xT := 106) Tryz.underlying65 v W
      have hes : esc.size = 2 * sL.length := by
        have h1 : esc.size = esc.data.toList.length := rfl
        rw [h1, HE.out, escL_length]
      have HEs := Lib.hid hes; clear hes
      go_wp2_with fail
      go_loopg [9, 10] sL.length (fun k v9 _v10 wr => ∃ j F', v9 = .int .i64 ((2 * j : Nat) : Int) ∧ j + k = sL.length ∧ BufW S b wr F' (l ++ sL.take j) ∧ (∀ k, F' k → F k ∨ w.heap.size ≤ k) ∧ Upd F w wr)
      case atStart => exact ⟨0, F, rfl, by omega, by simpa using HB.out, fun k hk => .inl hk, Upd.refl _ _⟩
      case round =>
        obtain ⟨j, F1, rfl, hjk, hB1, hF1, hU1⟩ := hrel
        have hl1 : wr.cell? ⟨lb, 4, none⟩ = some (.string esc) := hU1.cell HLb.out hFl
        have hp1 : wr.cell? ⟨pb, 0, none⟩ = some (.iface 50 (.pointer (some ⟨b, 0, none⟩))) := hU1.cell HP.out hFp
        have HB1 := Lib.hid hB1
        have HF1 := Lib.hid hF1
        have HU1 := Lib.hid hU1
        clear hB1 hF1 hU1
        have HJ := Lib.hid hjk; clear hjk
        have hes2 : (esc.size : Int) = 2 * (sL.length : Int) := by have := HEs.out; omega
        have hjl : j ≤ sL.length := by have := HJ.out; omega
        by_cases hlt : j < sL.length
        · have hg := escL_get sL j
          rw [← HE.out] at hg
          have hlt1 : 2 * j < esc.size := by have := HEs.out; omega
          have hlt2 : 2 * j + 1 < esc.size := by have := HEs.out; omega
          have he1 : ∀ h : 2 * j < esc.size, (esc[2 * j]'h) = 92 := fun h => by
            have h1 := hg.1
            rw [List.getElem?_eq_getElem hlt, List.getElem?_eq_getElem (show 2 * j < esc.data.toList.length from h)] at h1
            simp at h1
            exact h1
          have he2 : ∀ h : 2 * j + 1 < esc.size, (esc[2 * j + 1]'h) = sL[j] := fun h => by
            have h1 := hg.2
            rw [List.getElem?_eq_getElem hlt, List.getElem?_eq_getElem (show 2 * j + 1 < esc.data.toList.length from h)] at h1
            simp at h1
            exact h1
          clear hg
          have hm : ∀ w, (method 540 50 (.pointer (some ⟨b, 0, none⟩)) "WriteByte").run Tryz.prog w = .ok (234, .pointer (some ⟨b, 0, none⟩)) w := fun w => by kernel_rfl
          have ha : ∀ w, (nilAhead 540 50 (.pointer (some ⟨b, 0, none⟩)) "WriteByte").run Tryz.prog w = .ok (some false) w := fun w => by kernel_rfl
          have hj1 : (2 : Int) * (j : Int) + 1 < 2 * (sL.length : Int) := by omega
          have hb2 : (2 : Int) * (sL.length : Int) ≤ 1099511627776 := by have := HLim.out; unfold LIM at this; omega
          have hwj : wrap64 (2 * (j : Int) + 1) = 2 * (j : Int) + 1 := by unfold wrap64; omega
          have hwj2 : wrap64 (2 * (j : Int) + 1 + 1) = 2 * (j : Int) + 1 + 1 := by unfold wrap64; omega
          have he3 : ∀ h : (2 * (j : Int) + 1).toNat < esc.size, (esc[(2 * (j : Int) + 1).toNat]'h) = sL[j] := fun h => by
            have e : (2 * (j : Int) + 1).toNat = 2 * j + 1 := by omega
            simp only [e]
            exact he2 _
          have HWb := Lib.hid (fun W (x : Int) (hx : x = (sL[j].toNat : Int)) (hu : Upd (fun _ => False) wr W) => wb_any (x := x) hs (sL[j]) hx (HB1.out.stable hs hu (fun _ _ h => h)) (hok _) (by
            have := HLim.out; simp only [List.length_append, List.length_take]; omega))
          go_wp2_with fail
          go_region_held3 (fun w' => w'.cell? ⟨lb, 4, none⟩ = some (.string esc) ∧ w'.cell? ⟨pb, 0, none⟩ = some (.iface 50 (.pointer (some ⟨b, 0, none⟩)))) (first | exact ⟨hl1, hp1⟩ | exact ⟨k1, k2⟩ | simp [go_sem, *])
            (first | (go_at_call 234
                      refine (HWb.out _ _ ?_ ?_).mono ?_
                      · first | rfl | rw [he3]
                      · exact (Upd.refl _ _).drew
                      rintro e w1 ⟨rfl, F2, hB2, hF2, hU2⟩
                      have hU12 : Upd F w w1 := HU1.out.trans' (((Upd.refl F1 wr).drew).trans hU2) HF1.out
                      have k1 := hU12.cell HLb.out hFl
                      have k2 := hU12.cell HP.out hFp
                      have HB2 := Lib.hid hB2
                      have HF2 := Lib.hid hF2
                      have HU2 := Lib.hid hU12
                      clear hB2 hF2 hU2 hU12))
          go_wp2
          go_roundg (sL.length - (j + 1))
          case measure => have := HJ.out; omega
          case rel =>
            refine ⟨j + 1, F2, by go_num, by omega, ?_, fun k hk => ?_, HU2.out⟩
            · have e : l ++ sL.take (j + 1) = l ++ sL.take j ++ [sL[j]] := by simp
              rw [e]
              exact HB2.out
            · rcases HF2.out k hk with h | h
              · exact HF1.out k h
              · have := HU1.out.size
                exact .inr (by simp at h; omega)
        · have hjn : j = sL.length := by omega
          subst hjn
          rw [List.take_length] at HB1
          go_wp2_with fail
          go_roundg 0
          case measure => omega
          case rel => exact .inr ⟨rfl, by go_num, F1, HB1.out, HF1.out, HU1.out⟩
    · have HEnd := Lib.hid hend
      clear hend
      go_wp2_with fail
      go_end0
      exact ⟨rfl, HEnd.out⟩

set_option maxRecDepth 100000 in
set_option maxHeartbeats 2000000 in
theorem u73_word (str : ByteArray) (g : Nat) (w : World) (hg : w.cell? ⟨g, 0, none⟩ = some (.string str)) :
    Calls Tryz.prog 18 #[.slice (some ⟨g, 0, none⟩) 1 1, .slice none 0 0] w fun e w' => ∃ wb gp cap lb, e = .returned (.pointer (some ⟨wb, 0, none⟩)) ∧ w'.cell? ⟨wb, 0, none⟩ = some (.slice (some ⟨gp, 0, none⟩) 1 cap) ∧
      w'.cell? ⟨gp, 0, none⟩ = some (.iface 65 (.pointer (some ⟨lb, 0, none⟩))) ∧ w'.cell? ⟨lb, 4, none⟩ = some (.string str) ∧ Upd (fun _ => False) w w' := by
  obtain ⟨i, hi, hz, hsz, hby⟩ : ∃ i, Tryz.prog.info? 106 = some i ∧ i.zero = some .nilIface ∧ i.size = 1 ∧ i.bytes = 16 := ⟨_, rfl, rfl, rfl, rfl⟩
  have hmk : (Instr.makeSlice 58 (.int .i64 0) (.int .i64 1)).run Tryz.prog w = .ok (.slice (some ⟨w.heap.size, 0, none⟩) 0 1) (w.alloc (.cells #[.nilIface] 106)) := by
    have h := run_make (P := Tryz.prog) w 58 106 i .nilIface Tryz.underlying58 hi hz .i64 .i64 0 1 (by decide) (by decide) (by rw [hby]; decide) (by decide)
    rw [hsz] at h
    exact h.trans (congrArg (fun x => Result.ok _ (w.alloc (.cells x 106))) (by kernel_rfl))
  have HG := Lib.hid hg; clear hg
  have HI := Lib.hid (And.intro hi hsz); clear hi hz hsz hby
  go_enter Tryz.func18, Tryz.ntmps18
  go_wp2_with fail
  go_loopg [5, 6] 1 (fun k v5 v6 wr => (k = 1 ∧ v5 = .slice (some ⟨w.heap.size, 0, none⟩) 0 1 ∧ v6 = .int .i64 0 ∧ w.alloc (.cells #[.nilIface] 106) = wr) ∨
    (k = 0 ∧ ∃ lb, v5 = .slice (some ⟨w.heap.size, 0, none⟩) 1 1 ∧ v6 = .int .i64 1 ∧ wr.cell? ⟨w.heap.size, 0, none⟩ = some (.iface 65 (.pointer (some ⟨lb, 0, none⟩))) ∧ wr.cell? ⟨lb, 4, none⟩ = some (.string str) ∧ Upd (fun _ => False) w wr))
  case atStart => exact .inl ⟨rfl, rfl, rfl, rfl⟩
  case round =>
    rcases hrel with ⟨rfl, rfl, rfl, hwr⟩ | ⟨rfl, lb, rfl, rfl, h1, h2, h3⟩
    · have HW := Lib.hid hwr
      have hg1 : wr.cell? ⟨g, 0, none⟩ = some (.string str) := by rw [← hwr]; exact ((Upd.refl (fun _ => False) w).alloc _).cell HG.out (fun h => h)
      have hsz1 : wr.heap.size = w.heap.size + 1 := by rw [← hwr]; simp
      have HUw := Lib.hid (show Upd (fun _ => False) w wr by rw [← hwr]; exact (Upd.refl _ w).alloc _)
      have hgr : wr.heap[w.heap.size]? = some (.cells #[.nilIface] 106 (0, 0)) := by rw [← hwr]; exact heap_alloc_new _ _
      clear hwr
      have hap : (Builtin.append_ #[58, 58] 58 #[.slice (some ⟨w.heap.size, 0, none⟩) 0 1, .slice (some ⟨wr.heap.size + 1, 0, none⟩) 1 1]).run Tryz.prog
          ((wr.alloc (.cells #[.int .u32 0, .int .u32 0, .int .u32 0, .int .u32 0, .string str] 67)).alloc (.cells #[.iface 65 (.pointer (some ⟨wr.heap.size, 0, none⟩))] 106)) =
          .ok (.slice (some ⟨w.heap.size, 0, none⟩) 1 1) (((wr.alloc (.cells #[.int .u32 0, .int .u32 0, .int .u32 0, .int .u32 0, .string str] 67)).alloc (.cells #[.iface 65 (.pointer (some ⟨wr.heap.size, 0, none⟩))] 106)).setRow w.heap.size #[.iface 65 (.pointer (some ⟨wr.heap.size, 0, none⟩))]) := by
        have hs2 : (wr.alloc (.cells #[.int .u32 0, .int .u32 0, .int .u32 0, .int .u32 0, .string str] 67)).heap.size = wr.heap.size + 1 := by simp
        have hnew := heap_alloc_new (wr.alloc (.cells #[.int .u32 0, .int .u32 0, .int .u32 0, .int .u32 0, .string str] 67)) (.cells #[.iface 65 (.pointer (some ⟨wr.heap.size, 0, none⟩))] 106)
        rw [hs2] at hnew
        refine (run_append_room (P := Tryz.prog) _ 58 58 106 i Tryz.underlying58 HI.out.1 w.heap.size 0 1 #[.nilIface]
          ((Below.heap_alloc _ _ _ (by simp; omega)).trans ((Below.heap_alloc _ _ _ (by omega)).trans hgr)) ⟨wr.heap.size + 1, 0, none⟩ 1 1 [.iface 65 (.pointer (some ⟨wr.heap.size, 0, none⟩))] (by rw [HI.out.2]; rfl)
          (fun j u hj => by
            cases j with
            | zero => rw [Addr.add_lit, cell_at hnew]; simpa using hj
            | succ j => simp at hj) (by simp [Value.oneCell']) (by omega) (by simp)).trans ?_
        rw [HI.out.2]
        rfl
      have HAp := Lib.hid hap; clear hap
      have HGr := Lib.hid hgr; clear hgr
      have HS1 := Lib.hid hsz1; clear hsz1
      go_wp2_with (at_builtin; refine wpList_append_run rfl _ _ _ rfl rfl rfl HAp.out ?_)
      go_roundg 0
      case measure => omega
      case rel =>
        have hs2 : (wr.alloc (.cells #[.int .u32 0, .int .u32 0, .int .u32 0, .int .u32 0, .string str] 67)).heap.size = wr.heap.size + 1 := by simp
        have hs1 := HS1.out
        have hl := heap_alloc_new wr (.cells #[.int .u32 0, .int .u32 0, .int .u32 0, .int .u32 0, .string str] 67)
        refine .inr ⟨rfl, wr.heap.size, rfl, rfl, ?_, ?_, ?_⟩
        · rw [cell_at (setRow_heap _ _ #[.nilIface] _ _ _ ((Below.heap_alloc _ _ _ (by omega)).trans ((Below.heap_alloc _ _ _ (by omega)).trans HGr.out)))]
          rfl
        · rw [cell_at ((setRow_other _ _ _ _ (by omega)).trans ((Below.heap_alloc _ _ _ (by omega)).trans hl))]
          rfl
        · exact (((HUw.out.alloc _).alloc _).setRow (.inr (Nat.le_refl _)) _)
    · have H1 := Lib.hid h1
      have H2 := Lib.hid h2
      have H3 := Lib.hid h3
      clear h1 h2 h3
      go_wp2_with fail
      go_ret
      exact ⟨_, _, _, _, rfl, cell_at (heap_alloc_new _ _) 0, (((Upd.refl (fun _ => False) wr).alloc _).cell H1.out (fun h => h)), (((Upd.refl (fun _ => False) wr).alloc _).cell H2.out (fun h => h)), H3.out.alloc _⟩

set_option maxRecDepth 100000 in
set_option maxHeartbeats 2000000 in
theorem u73_printer {S : Sink} (hs : S.Law Tryz.prog 540) (hnb : S.NoBW Tryz.prog) (hty : S.ty = 47) {w : World} {F : Nat → Prop} {l : List UInt8} (h : S.I w F l) (m : Bool) :
    Calls Tryz.prog 33 #[.pointer (some S.ptr), .bool m] w fun e w' => ∃ pb b F', e = .returned (.tuple #[.pointer (some ⟨pb, 0, none⟩), .pointer (some ⟨b, 0, none⟩)]) ∧
      PrW w' pb b ∧ BufW S b w' F' l ∧ ¬ F' pb ∧ w.heap.size ≤ pb ∧ w.heap.size ≤ b ∧ (∀ k, F' k → F k ∨ w.heap.size ≤ k) ∧ Upd (fun _ => False) w w' := by
  have HN := Lib.hid (nw_any hs hnb h)
  rw [hty] at HN
  clear h hnb
  go_enter Tryz.func33, Tryz.ntmps33
  go_wp2_with (go_at_call 37; refine HN.out.mono ?_)
  rintro e w1 ⟨b, F1, rfl, hB, hb, hF1, hU⟩
  have HB := Lib.hid hB
  have HF := Lib.hid hF1
  have HU := Lib.hid hU
  clear hB hF1 hU
  go_wp2
  go_ret2
  have hlt : ∀ k, F1 k → k < w1.heap.size := BufP.lt hs HB.out
  have hsz := HU.out.size
  refine ⟨_, b, F1, rfl, cell_at (heap_alloc_new _ _) 0, ⟨l, [], HB.out.stable hs ((Upd.refl (fun _ => False) w1).alloc _) (fun _ _ h => h), by simp⟩, fun h => ?_, hsz, hb, HF.out, HU.out.alloc _⟩
  exact absurd (hlt _ h) (by omega)
end Go.Proofs.YtabpbmmkkolpbaaGreatFmt
