/-
  bufio.Writer.WriteString over a sink that is no io.StringWriter.
  bufio.Writer.WriteString over a sink that is an io.StringWriter.
-/
import Derived.Test.YtmdkpihlhdjjaaaGreatFmtKMbX
import Derived.Test.YtmdkpihlhdjjaaaGreatFmtKMaX
import Derived.Deep.LoopGhost
namespace Go.Proofs.YtmdkpihlhdjjaaaGreatFmt
open Go.RowKit

/-- The sink's type has no WriteString. -/
def Sink.NoSW (P : Program) (s : Sink) : Prop :=
  ∀ w, (Instr.typeAssert (.iface s.ty (.pointer (some s.ptr))) 75 437 true).run P w = .ok (.tuple #[.nilIface, .bool false]) w

/-- The buffer after some bytes were laid into it. -/
theorem BufP.step {P : Program} {fuel : Nat} {s : Sink} (hs : s.Law P fuel) {b g : Nat} {w W : World} {F Fs : Nat → Prop} {inner pend d : List UInt8} {cur : Array Value}
    (hsz : cur.size = 4096) (htk : cur.toList.take pend.length = bv pend) (hok : ∀ c ∈ pend, s.okb c = true) (hI : s.I w Fs inner) (hbg : b ≠ g) (hFb : ¬ Fs b) (hFg : ¬ Fs g) (hF : ∀ k, F k ↔ k = b ∨ k = g ∨ Fs k)
    (hd : ∀ c ∈ d, s.okb c = true) (hfit : pend.length + d.length ≤ 4096)
    (hb' : W.heap[b]? = some (.cells #[.nilIface, .slice (some ⟨g, 0, none⟩) 4096 4096, .int .i64 ((pend ++ d).length : Int), .iface s.ty (.pointer (some s.ptr))] 285 (0, 0)))
    (hg' : W.heap[g]? = some (.cells (laid cur pend.length d) 5 (0, 0))) (hu : Upd (fun k => k = b ∨ k = g) w W) : BufP s b W F inner (pend ++ d) := by
  refine ⟨g, _, Fs, hb', hg', by rw [laid_size (by omega), hsz], by rw [List.length_append]; omega, laid_take htk, ?_, ?_, hbg, hFb, hFg, hF⟩
  · intro c hc
    rcases List.mem_append.1 hc with h | h
    · exact hok c h
    · exact hd c h
  · exact hs.stable hI hu fun k hk e => by rcases e with rfl | rfl; exact hFb hk; exact hFg hk

theorem extract_drop (r : ByteArray) (m : Nat) : (r.extract m r.size).data.toList = r.data.toList.drop m := by
  rw [ByteArray.data_extract, Array.toList_extract, List.extract_eq_take_drop]
  exact List.take_of_length_le (by rw [List.length_drop]; exact Nat.le_refl _)

/-- What the loop of WriteString keeps. -/
def WsInv (S : Sink) (b : Nat) (F : Nat → Prop) (w : World) (l : List UInt8) (s : ByteArray) (r : ByteArray) (wr : World) (inner pend : List UInt8) : Prop :=
  ∃ (Fr : Nat → Prop), BufP S b wr Fr inner pend ∧ (∀ k, Fr k → F k ∨ w.heap.size ≤ k) ∧ Upd F w wr ∧ inner ++ pend ++ r.data.toList = l ++ s.data.toList ∧ (∀ c ∈ r.data.toList, S.okb c = true)

set_option maxRecDepth 100000 in
set_option maxHeartbeats 1000000 in
theorem ws_nosw {S : Sink} (hs : S.Law Tryz.prog 561) (hsw : S.NoSW Tryz.prog) {b : Nat} {w : World} {F : Nat → Prop} {l : List UInt8} (s : ByteArray) (h : BufW S b w F l) (hk : ∀ c ∈ s.data.toList, S.okb c = true) (hl : l.length + s.size ≤ LIM) :
    Calls Tryz.prog 243 #[.pointer (some ⟨b, 0, none⟩), .string s] w fun e w' => e = .returned (.tuple #[.int .i64 (s.size : Int), .nilIface]) ∧ ∃ F', BufW S b w' F' (l ++ s.data.toList) ∧ (∀ k, F' k → F k ∨ w.heap.size ≤ k) ∧ Upd F w w' := by
  obtain ⟨inner0, pend0, hp0, hl0⟩ := h
  have HP0 := Lib.hid hp0; clear hp0
  have HL0 := Lib.hid hl0; clear hl0
  have HK := Lib.hid hk; clear hk
  have HLim := Lib.hid hl; clear hl
  have hsize : (s.size : Int) ≤ 1099511627776 := by have := HLim.out; unfold LIM at this; omega
  go_enter Tryz.func243, Tryz.ntmps243
  go_wp2_with fail
  go_loopg [1, 6, 7, 8] (s.size + pend0.length) (fun k v1 v6 v7 v8 wr => ∃ (r : ByteArray) (j : Nat) (tb : Bool) (inner pend : List UInt8), v1 = .string r ∧ v6 = .nilIface ∧ v7 = .bool tb ∧ v8 = .int .i64 j ∧ j + r.size = s.size ∧ WsInv S b F w l s r wr inner pend ∧ k = r.size + pend.length)
  case atStart =>
    refine ⟨s, 0, true, inner0, pend0, rfl, rfl, rfl, rfl, by omega, ⟨F, HP0.out, fun k hk => .inl hk, Upd.refl _ _, by rw [HL0.out], HK.out⟩, rfl⟩
  case round =>
    obtain ⟨r, j, tb, inner, pend, rfl, rfl, rfl, rfl, hjr, hinv, rfl⟩ := hrel
    obtain ⟨Fr, hP, hFr, hU, hl', hkr⟩ := hinv
    have HP := Lib.hid hP
    obtain ⟨g, cur, Fs, hb, hg, hsz, hn, htk, hok, hI, hbg, hFb, hFg, hF⟩ := hP
    have HJR := Lib.hid hjr; clear hjr
    have HL := Lib.hid hl'; clear hl'
    have HKR := Lib.hid hkr; clear hkr
    have HB := Lib.hid hb
    have HG := Lib.hid hg
    have hc0 : wr.cell? ⟨b, 0, none⟩ = some .nilIface := cell_at hb 0
    have hc1 : wr.cell? ⟨b, 1, none⟩ = some (.slice (some ⟨g, 0, none⟩) 4096 4096) := cell_at hb 1
    have hc2 : wr.cell? ⟨b, 2, none⟩ = some (.int .i64 (pend.length : Int)) := cell_at hb 2
    have hc3 : wr.cell? ⟨b, 3, none⟩ = some (.iface S.ty (.pointer (some S.ptr))) := cell_at hb 3
    have hfb : wr.frozen? ⟨b, 2, none⟩ = false := frozen_at hb 2
    have hbg' : ¬ g = b := fun e => hbg e.symm
    have hbj : (j : Int) + (r.size : Int) ≤ 1099511627776 := by have := HJR.out; omega
    have hn' : (pend.length : Int) ≤ 4096 := by omega
    have HSz := Lib.hid hsz; clear hsz
    have HTk := Lib.hid htk; clear htk
    have HF := Lib.hid hF; clear hF
    have HI := Lib.hid hI; clear hI
    have HOk := Lib.hid hok; clear hok
    have HFr := Lib.hid hFr; clear hFr
    clear hb hg
    by_cases hgt : 4096 - (pend.length : Int) < (r.size : Int)
    · obtain ⟨m, hm⟩ : ∃ m : Nat, m = 4096 - pend.length := ⟨_, rfl⟩
      have hm1 : pend.length + m ≤ 4096 := by omega
      have hm2 : 4096 ≤ pend.length + m := by omega
      have hm3 : (m : Int) < (r.size : Int) := by omega
      have hmr : m ≤ r.size := by omega
      have hta : ∀ w, (Instr.typeAssert (.iface S.ty (.pointer (some S.ptr))) 75 437 true).run Tryz.prog w = .ok (.tuple #[.nilIface, .bool false]) w := hsw
      have htl : (r.data.toList.take m).length = m := by have : r.data.toList.length = r.size := rfl; rw [List.length_take]; omega
      have hcp : ∀ k, (Builtin.copy_ #[31, 9] 3 #[.slice (if (4096 : Nat) = pend.length then some ⟨g, 0, none⟩ else some ⟨g, pend.length, none⟩) (4096 - pend.length) (4096 - pend.length), .string r]).run Tryz.prog (wr.drewN k) = .ok (.int .i64 (m : Int)) ((wr.drewN k).setRow g (laid cur pend.length (r.data.toList.take m))) := fun k => by
        have h := run_copy_str (P := Tryz.prog) (wr.drewN k) 31 9 3 5 Tryz.underlying31 (by kernel_rfl) (s := r) (g := g) (off := pend.length) (dLen := 4096 - pend.length) (dCap := 4096 - pend.length)
          (dp := if (4096 : Nat) = pend.length then some ⟨g, 0, none⟩ else some ⟨g, pend.length, none⟩) (cur := cur) HG.out (fun _ h => if_neg (by omega)) (by have := HSz.out; omega)
        have e1 : min r.size (4096 - pend.length) = m := by omega
        rw [e1, ← hm] at h
        rw [← hm]
        exact h
      have hcs : ∀ k, ((wr.drewN k).setRow g (laid cur pend.length (r.data.toList.take m))).cell? ⟨b, 2, none⟩ = some (.int .i64 (pend.length : Int)) := fun k => (cell_setRow_other _ _ _ _ hbg).trans hc2
      have hfs : ∀ k, ((wr.drewN k).setRow g (laid cur pend.length (r.data.toList.take m))).frozen? ⟨b, 2, none⟩ = false := fun k => (World.frozen?_of_block (setRow_other _ _ _ _ hbg)).trans hfb
      have hU1 : ∀ k, Upd (fun k => k = b ∨ k = g) wr (((wr.drewN k).setRow g (laid cur pend.length (r.data.toList.take m))).setCell ⟨b, 2, none⟩ (.int .i64 ((pend.length : Int) + (m : Int)))) := fun k =>
        (((Upd.refl _ wr).drewN _).setRow (.inl (.inr rfl)) _).setCell (.inl (.inl rfl)) _
      have HU1 := Lib.hid hU1; clear hU1
      have hFl : ∀ k, Calls Tryz.prog 239 #[.pointer (some ⟨b, 0, none⟩)] (((wr.drewN k).setRow g (laid cur pend.length (r.data.toList.take m))).setCell ⟨b, 2, none⟩ (.int .i64 ((pend.length : Int) + (m : Int)))) fun e w' =>
          e = .returned .nilIface ∧ BufPost S b Fr (((wr.drewN k).setRow g (laid cur pend.length (r.data.toList.take m))).setCell ⟨b, 2, none⟩ (.int .i64 ((pend.length : Int) + (m : Int)))) (inner ++ (pend ++ r.data.toList.take m)) [] w' := fun k =>
        flush_any hs (BufP.step hs HSz.out HTk.out HOk.out HI.out hbg hFb hFg HF.out (fun c hc => HKR.out c (List.mem_of_mem_take hc)) (by omega)
          ((heap_setCell_at _ ((setRow_other _ _ _ _ hbg).trans HB.out)).trans (by simp [hmr])) ((Below.heap_setCell _ _ _ _ hbg').trans (setRow_heap _ _ _ _ _ _ HG.out)) (HU1.out k)) (by
            have h1 := congrArg List.length HL.out
            have h2 := HLim.out
            have h3 : s.data.toList.length = s.size := rfl
            have h4 : r.data.toList.length = r.size := rfl
            simp only [List.length_append] at h1 ⊢
            omega)
      have HFl := Lib.hid hFl; clear hFl
      have HM := Lib.hid hm; clear hm
      have HTL := Lib.hid htl; clear htl
      rcases Bool.eq_false_or_eq_true ((pend.length : Int) == 0) with hz | hz <;> cases tb
      all_goals
        go_wp2_with (first
          | (go_at_call 238; refine (avail_any b g _ _ ?_ ?_ hc1 hc2).mono ?_; omega; omega; rintro e w1 ⟨rfl, k1, rfl⟩)
          | (go_at_call 244; refine (buffered_any b (pend.length : Int) _ ?_).mono ?_; exact hc2; rintro e w1 ⟨rfl, rfl⟩))
        go_region
        all_goals
          go_wp2_with (go_at_call 239; refine (HFl.out _).mono ?_; rintro e w2 ⟨rfl, hP2⟩; have HP2 := Lib.hid hP2; clear hP2)
        all_goals
          go_roundg (r.size - m)
          case measure => omega
          case rel =>
            obtain ⟨F2, h1, h2, h3⟩ := HP2.out
            refine ⟨r.extract m r.size, j + m, _, inner ++ (pend ++ r.data.toList.take m), [], rfl, rfl, rfl, by go_num, ?_, ⟨F2, h1, ?_, ?_, ?_, ?_⟩, ?_⟩
            · have := HJR.out; simp; omega
            · intro k hk
              rcases h2 k hk with h | h
              · exact HFr.out k h
              · exact .inr (Nat.le_trans hU.size (by simpa using h))
            · exact hU.trans' ((((HU1.out _).mono fun k hk => (HF.out k).2 (by rcases hk with h | h; exact .inl h; exact .inr (.inl h))).trans h3)) HFr.out
            · rw [← HL.out, List.append_nil, extract_drop]
              simp
            · intro c hc
              rw [extract_drop] at hc
              exact HKR.out c (List.mem_of_mem_drop hc)
            · simp
    · have hgt' : decide ((r.size : Int) > 4096 - (pend.length : Int)) = false := by simp; omega
      have hle : (pend.length : Int) + (r.size : Int) ≤ 4096 := by omega
      have hcp : ∀ k, (Builtin.copy_ #[31, 9] 3 #[.slice (if (4096 : Nat) = pend.length then some ⟨g, 0, none⟩ else some ⟨g, pend.length, none⟩) (4096 - pend.length) (4096 - pend.length), .string r]).run Tryz.prog (wr.drewN k) = .ok (.int .i64 (r.size : Int)) ((wr.drewN k).setRow g (laid cur pend.length r.data.toList)) := fun k => by
        have h := run_copy_str (P := Tryz.prog) (wr.drewN k) 31 9 3 5 Tryz.underlying31 (by kernel_rfl) (s := r) (g := g) (off := pend.length) (dLen := 4096 - pend.length) (dCap := 4096 - pend.length)
          (dp := if (4096 : Nat) = pend.length then some ⟨g, 0, none⟩ else some ⟨g, pend.length, none⟩) (cur := cur) HG.out (fun _ h => if_neg (by omega)) (by have := HSz.out; omega)
        have e1 : min r.size (4096 - pend.length) = r.size := by omega
        have e2 : r.data.toList.take (4096 - pend.length) = r.data.toList := List.take_of_length_le (by have : r.size = r.data.toList.length := rfl; omega)
        rw [e1, e2] at h
        exact h
      go_wp2_with (go_at_call 238; refine (avail_any b g _ _ ?_ ?_ hc1 hc2).mono ?_; omega; omega; rintro e w1 ⟨rfl, k1, rfl⟩)
      go_region
      have hcs : ∀ k, ((wr.drewN k).setRow g (laid cur pend.length r.data.toList)).cell? ⟨b, 2, none⟩ = some (.int .i64 (pend.length : Int)) := fun k => (cell_setRow_other _ _ _ _ hbg).trans hc2
      have hfs : ∀ k, ((wr.drewN k).setRow g (laid cur pend.length r.data.toList)).frozen? ⟨b, 2, none⟩ = false := fun k => (World.frozen?_of_block (setRow_other _ _ _ _ hbg)).trans hfb
      go_wp2
      all_goals
        go_ret2
        refine ⟨?_, Fr, ⟨inner, pend ++ r.data.toList, BufP.step hs HSz.out HTk.out HOk.out HI.out hbg hFb hFg HF.out HKR.out ?_ ?_ ?_ ?_, ?_⟩, HFr.out, ?_⟩
        · have := HJR.out
          exact congrArg (fun x => Ending.returned (.tuple #[.int .i64 x, .nilIface])) (by omega)
        · have : r.data.toList.length = r.size := rfl
          omega
        · refine (heap_setCell_at _ ((setRow_other _ _ _ _ hbg).trans HB.out)).trans ?_
          simp
        · exact (Below.heap_setCell _ _ _ _ hbg').trans (setRow_heap _ _ _ _ _ _ HG.out)
        · exact (((Upd.refl _ wr).drewN _).setRow (.inl (.inr rfl)) _).setCell (.inl (.inl rfl)) _
        · rw [← List.append_assoc, HL.out]
        · exact hU.trans' ((((Upd.refl Fr wr).drewN _).setRow (.inl ((HF.out g).2 (.inr (.inl rfl)))) _).setCell (.inl ((HF.out b).2 (.inl rfl))) _) HFr.out
end Go.Proofs.YtmdkpihlhdjjaaaGreatFmt

namespace Go.Proofs.YtmdkpihlhdjjaaaGreatFmt
open Go.RowKit

/-- The sink's type has a WriteString, and what it does. -/
structure Sink.SWr (P : Program) (fuel : Nat) (S : Sink) (swf : FuncId) : Prop where
  ta : ∀ w, (Instr.typeAssert (.iface S.ty (.pointer (some S.ptr))) 75 437 true).run P w = .ok (.tuple #[.iface S.ty (.pointer (some S.ptr)), .bool true]) w
  meth : ∀ w, (method fuel S.ty (.pointer (some S.ptr)) "WriteString").run P w = .ok (swf, .pointer (some S.ptr)) w
  ahead : ∀ w, (nilAhead fuel S.ty (.pointer (some S.ptr)) "WriteString").run P w = .ok (some false) w
  enters : ∀ args w, (callFunc swf args).run P w = .ok (.enter swf args) w
  wstr : ∀ {w F l} (t : ByteArray), S.I w F l → (∀ c ∈ t.data.toList, S.okb c = true) → l.length + t.size ≤ LIM →
    Calls P swf #[.pointer (some S.ptr), .string t] w fun e w' => e = .returned (.tuple #[.int .i64 (t.size : Int), .nilIface]) ∧ ∃ F', S.I w' F' (l ++ t.data.toList) ∧ (∀ k, F' k → F k ∨ w.heap.size ≤ k) ∧ Upd F w w'

set_option maxRecDepth 100000 in
set_option maxHeartbeats 1000000 in
theorem ws_sw {S : Sink} {swf : FuncId} (hs : S.Law Tryz.prog 561) (hsw : S.SWr Tryz.prog 561 swf) {b : Nat} {w : World} {F : Nat → Prop} {l : List UInt8} (s : ByteArray) (h : BufW S b w F l) (hk : ∀ c ∈ s.data.toList, S.okb c = true) (hl : l.length + s.size ≤ LIM) :
    Calls Tryz.prog 243 #[.pointer (some ⟨b, 0, none⟩), .string s] w fun e w' => e = .returned (.tuple #[.int .i64 (s.size : Int), .nilIface]) ∧ ∃ F', BufW S b w' F' (l ++ s.data.toList) ∧ (∀ k, F' k → F k ∨ w.heap.size ≤ k) ∧ Upd F w w' := by
  obtain ⟨inner0, pend0, hp0, hl0⟩ := h
  have HP0 := Lib.hid hp0; clear hp0
  have HL0 := Lib.hid hl0; clear hl0
  have HK := Lib.hid hk; clear hk
  have HLim := Lib.hid hl; clear hl
  have hsize : (s.size : Int) ≤ 1099511627776 := by have := HLim.out; unfold LIM at this; omega
  go_enter Tryz.func243, Tryz.ntmps243
  go_wp2_with fail
  go_loopg [1, 6, 7, 8] (s.size + pend0.length) (fun k v1 v6 v7 v8 wr => ∃ (r : ByteArray) (j : Nat) (sv : Value) (inner pend : List UInt8), v1 = .string r ∧ sv = v6 ∧ v7 = .bool true ∧ v8 = .int .i64 j ∧ j + r.size = s.size ∧ WsInv S b F w l s r wr inner pend ∧ k = r.size + pend.length ∧ (sv = .nilIface ∨ r.size = 0))
  case atStart =>
    refine ⟨s, 0, .nilIface, inner0, pend0, rfl, rfl, rfl, rfl, by omega, ⟨F, HP0.out, fun k hk => .inl hk, Upd.refl _ _, by rw [HL0.out], HK.out⟩, rfl, .inl rfl⟩
  case round =>
    obtain ⟨r, j, sv, inner, pend, rfl, rfl, rfl, rfl, hjr, hinv, rfl, hsv⟩ := hrel
    obtain ⟨Fr, hP, hFr, hU, hl', hkr⟩ := hinv
    have HP := Lib.hid hP
    obtain ⟨g, cur, Fs, hb, hg, hsz, hn, htk, hok, hI, hbg, hFb, hFg, hF⟩ := hP
    have HJR := Lib.hid hjr; clear hjr
    have HL := Lib.hid hl'; clear hl'
    have HKR := Lib.hid hkr; clear hkr
    have HB := Lib.hid hb
    have HG := Lib.hid hg
    have hc0 : wr.cell? ⟨b, 0, none⟩ = some .nilIface := cell_at hb 0
    have hc1 : wr.cell? ⟨b, 1, none⟩ = some (.slice (some ⟨g, 0, none⟩) 4096 4096) := cell_at hb 1
    have hc2 : wr.cell? ⟨b, 2, none⟩ = some (.int .i64 (pend.length : Int)) := cell_at hb 2
    have hc3 : wr.cell? ⟨b, 3, none⟩ = some (.iface S.ty (.pointer (some S.ptr))) := cell_at hb 3
    have hfb : wr.frozen? ⟨b, 2, none⟩ = false := frozen_at hb 2
    have hbg' : ¬ g = b := fun e => hbg e.symm
    have hbj : (j : Int) + (r.size : Int) ≤ 1099511627776 := by have := HJR.out; omega
    have hn' : (pend.length : Int) ≤ 4096 := by omega
    have HSz := Lib.hid hsz; clear hsz
    have HTk := Lib.hid htk; clear htk
    have HF := Lib.hid hF; clear hF
    have HI := Lib.hid hI; clear hI
    have HOk := Lib.hid hok; clear hok
    have HFr := Lib.hid hFr; clear hFr
    clear hb hg
    by_cases hgt : 4096 - (pend.length : Int) < (r.size : Int)
    · obtain rfl : sv = .nilIface := hsv.resolve_right (fun e => by omega)
      clear hsv
      by_cases hp0 : pend.length = 0
      · obtain rfl := List.length_eq_zero_iff.1 hp0
        have hta := hsw.ta
        have hm := hsw.meth
        have hah := hsw.ahead
        have he := hsw.enters
        have hrl : inner.length + r.size ≤ LIM := by
          have h1 := congrArg List.length HL.out
          have h2 := HLim.out
          have h3 : s.data.toList.length = s.size := rfl
          have h4 : r.data.toList.length = r.size := rfl
          simp only [List.length_append, List.length_nil] at h1
          omega
        obtain ⟨Q1, HQ1, HSw⟩ : ∃ Q1 : World → Ending → World → Prop, RowKit.Hid (∀ k e w', Q1 (wr.drewN k) e w' → e = .returned (.tuple #[.int .i64 (r.size : Int), .nilIface]) ∧ ∃ F', S.I w' F' (inner ++ r.data.toList) ∧ (∀ k, F' k → Fs k ∨ wr.heap.size ≤ k) ∧ Upd Fs wr w') ∧
            RowKit.Hid (∀ k, Calls Tryz.prog swf #[.pointer (some S.ptr), .string r] (wr.drewN k) (Q1 (wr.drewN k))) :=
          ⟨fun W e w' => e = .returned (.tuple #[.int .i64 (r.size : Int), .nilIface]) ∧ ∃ F', S.I w' F' (inner ++ r.data.toList) ∧ (∀ k, F' k → Fs k ∨ wr.heap.size ≤ k) ∧ Upd Fs wr w', fun _ _ _ h => h, fun k =>
            (hsw.wstr r (hs.stable HI.out ((Upd.refl (fun _ => False) wr).drewN k) (fun _ _ h => h)) HKR.out hrl).mono fun e w' ⟨h1, F', h2, h3, h4⟩ => ⟨h1, F', h2, h3, ((Upd.refl Fs wr).drewN k).trans h4⟩⟩
        clear hsw
        go_wp2_with (first
          | (go_at_call 238; refine (avail_any b g _ _ ?_ ?_ hc1 hc2).mono ?_; omega; omega; rintro e w1 ⟨rfl, k1, rfl⟩)
          | (go_at_call 244; refine (buffered_any b 0 _ ?_).mono ?_; exact hc2; rintro e w1 ⟨rfl, rfl⟩)
          | (refine (HSw.out _).mono ?_))
        rintro e w2 hq
        obtain ⟨rfl, F2, hI2, hF2, hU2⟩ := HQ1.out _ e w2 hq
        clear hq
        have HB2 := Lib.hid (hU2.heap HB.out hFb)
        have HG2 := Lib.hid (hU2.heap HG.out hFg)
        have d0 : w2.cell? ⟨b, 0, none⟩ = some .nilIface := cell_at HB2.out 0
        have e0 : w2.frozen? ⟨b, 0, none⟩ = false := frozen_at HB2.out 0
        have HI2 := Lib.hid hI2
        have HF2 := Lib.hid hF2
        have HU2 := Lib.hid hU2
        clear hI2 hF2 hU2
        go_wp2
        go_roundg 0
        case measure => simp at *; omega
        case rel =>
          have hext : ByteArray.empty.data.toList = [] := rfl
          refine ⟨ByteArray.empty, j + r.size, _, inner ++ r.data.toList, [], rfl, rfl, rfl, by go_num, ?_, ⟨fun k => k = b ∨ k = g ∨ F2 k, ⟨g, cur, F2, ?_, ?_, HSz.out, by simp, by simp, by simp, ?_, hbg, ?_, ?_, fun k => Iff.rfl⟩, ?_, ?_, ?_, ?_⟩, ?_, .inr (by simp)⟩
          · have := HJR.out; simp; omega
          · refine (heap_setCell_at _ HB2.out).trans ?_
            simp
          · exact (Below.heap_setCell _ _ _ _ hbg').trans HG2.out
          · exact hs.stable HI2.out ((Upd.refl (fun k => k = b) w2).setCell (p := ⟨b, 0, none⟩) (.inl rfl) _) fun k hk e => by
              subst e
              rcases HF2.out _ hk with h | h
              · exact hFb h
              · exact absurd (heap_lt HB.out) (by omega)
          · intro h
            rcases HF2.out _ h with h | h
            · exact hFb h
            · exact absurd (heap_lt HB.out) (by omega)
          · intro h
            rcases HF2.out _ h with h | h
            · exact hFg h
            · exact absurd (heap_lt HG.out) (by omega)
          · rintro k (rfl | rfl | hk)
            · exact HFr.out _ ((HF.out _).2 (.inl rfl))
            · exact HFr.out _ ((HF.out _).2 (.inr (.inl rfl)))
            · rcases HF2.out k hk with h | h
              · exact HFr.out k ((HF.out k).2 (.inr (.inr h)))
              · exact .inr (Nat.le_trans hU.size h)
          · exact (hU.trans' (HU2.out.mono fun k hk => (HF.out k).2 (.inr (.inr hk))) HFr.out).setCell (p := ⟨b, 0, none⟩) (HFr.out b ((HF.out b).2 (.inl rfl))) _
          · rw [← HL.out, hext]
            simp
          · rw [hext]
            intro c hc
            cases hc
          · simp
      · obtain ⟨m, hm⟩ : ∃ m : Nat, m = 4096 - pend.length := ⟨_, rfl⟩
        have hm1 : pend.length + m ≤ 4096 := by omega
        have hm2 : 4096 ≤ pend.length + m := by omega
        have hm3 : (m : Int) < (r.size : Int) := by omega
        have hmr : m ≤ r.size := by omega
        have hz : ((pend.length : Int) == 0) = false := by rw [beq_eq_false_iff_ne]; omega
        have htl : (r.data.toList.take m).length = m := by have : r.data.toList.length = r.size := rfl; rw [List.length_take]; omega
        have hcp : ∀ k, (Builtin.copy_ #[31, 9] 3 #[.slice (if (4096 : Nat) = pend.length then some ⟨g, 0, none⟩ else some ⟨g, pend.length, none⟩) (4096 - pend.length) (4096 - pend.length), .string r]).run Tryz.prog (wr.drewN k) = .ok (.int .i64 (m : Int)) ((wr.drewN k).setRow g (laid cur pend.length (r.data.toList.take m))) := fun k => by
          have h := run_copy_str (P := Tryz.prog) (wr.drewN k) 31 9 3 5 Tryz.underlying31 (by kernel_rfl) (s := r) (g := g) (off := pend.length) (dLen := 4096 - pend.length) (dCap := 4096 - pend.length)
            (dp := if (4096 : Nat) = pend.length then some ⟨g, 0, none⟩ else some ⟨g, pend.length, none⟩) (cur := cur) HG.out (fun _ h => if_neg (by omega)) (by have := HSz.out; omega)
          have e1 : min r.size (4096 - pend.length) = m := by omega
          rw [e1, ← hm] at h
          rw [← hm]
          exact h
        have hcs : ∀ k, ((wr.drewN k).setRow g (laid cur pend.length (r.data.toList.take m))).cell? ⟨b, 2, none⟩ = some (.int .i64 (pend.length : Int)) := fun k => (cell_setRow_other _ _ _ _ hbg).trans hc2
        have hfs : ∀ k, ((wr.drewN k).setRow g (laid cur pend.length (r.data.toList.take m))).frozen? ⟨b, 2, none⟩ = false := fun k => (World.frozen?_of_block (setRow_other _ _ _ _ hbg)).trans hfb
        have hU1 : ∀ k, Upd (fun k => k = b ∨ k = g) wr (((wr.drewN k).setRow g (laid cur pend.length (r.data.toList.take m))).setCell ⟨b, 2, none⟩ (.int .i64 ((pend.length : Int) + (m : Int)))) := fun k =>
          (((Upd.refl _ wr).drewN _).setRow (.inl (.inr rfl)) _).setCell (.inl (.inl rfl)) _
        have HU1 := Lib.hid hU1; clear hU1
        have hFl : ∀ k, Calls Tryz.prog 239 #[.pointer (some ⟨b, 0, none⟩)] (((wr.drewN k).setRow g (laid cur pend.length (r.data.toList.take m))).setCell ⟨b, 2, none⟩ (.int .i64 ((pend.length : Int) + (m : Int)))) fun e w' =>
            e = .returned .nilIface ∧ BufPost S b Fr (((wr.drewN k).setRow g (laid cur pend.length (r.data.toList.take m))).setCell ⟨b, 2, none⟩ (.int .i64 ((pend.length : Int) + (m : Int)))) (inner ++ (pend ++ r.data.toList.take m)) [] w' := fun k =>
          flush_any hs (BufP.step hs HSz.out HTk.out HOk.out HI.out hbg hFb hFg HF.out (fun c hc => HKR.out c (List.mem_of_mem_take hc)) (by omega)
            ((heap_setCell_at _ ((setRow_other _ _ _ _ hbg).trans HB.out)).trans (by simp [hmr])) ((Below.heap_setCell _ _ _ _ hbg').trans (setRow_heap _ _ _ _ _ _ HG.out)) (HU1.out k)) (by
              have h1 := congrArg List.length HL.out
              have h2 := HLim.out
              have h3 : s.data.toList.length = s.size := rfl
              have h4 : r.data.toList.length = r.size := rfl
              simp only [List.length_append] at h1 ⊢
              omega)
        have HFl := Lib.hid hFl; clear hFl
        have HM := Lib.hid hm; clear hm
        have HTL := Lib.hid htl; clear htl
        all_goals
          go_wp2_with (first
            | (go_at_call 238; refine (avail_any b g _ _ ?_ ?_ hc1 hc2).mono ?_; omega; omega; rintro e w1 ⟨rfl, k1, rfl⟩)
            | (go_at_call 244; refine (buffered_any b (pend.length : Int) _ ?_).mono ?_; exact hc2; rintro e w1 ⟨rfl, rfl⟩))
          go_region
          all_goals
            go_wp2_with (go_at_call 239; refine (HFl.out _).mono ?_; rintro e w2 ⟨rfl, hP2⟩; have HP2 := Lib.hid hP2; clear hP2)
          all_goals
            go_roundg (r.size - m)
            case measure => omega
            case rel =>
              obtain ⟨F2, h1, h2, h3⟩ := HP2.out
              refine ⟨r.extract m r.size, j + m, .nilIface, inner ++ (pend ++ r.data.toList.take m), [], rfl, rfl, rfl, by go_num, ?_, ⟨F2, h1, ?_, ?_, ?_, ?_⟩, ?_, .inl rfl⟩
              · have := HJR.out; simp; omega
              · intro k hk
                rcases h2 k hk with h | h
                · exact HFr.out k h
                · exact .inr (Nat.le_trans hU.size (by simpa using h))
              · exact hU.trans' ((((HU1.out _).mono fun k hk => (HF.out k).2 (by rcases hk with h | h; exact .inl h; exact .inr (.inl h))).trans h3)) HFr.out
              · rw [← HL.out, List.append_nil, extract_drop]
                simp
              · intro c hc
                rw [extract_drop] at hc
                exact HKR.out c (List.mem_of_mem_drop hc)
              · simp
    · have hgt' : decide ((r.size : Int) > 4096 - (pend.length : Int)) = false := by simp; omega
      have hle : (pend.length : Int) + (r.size : Int) ≤ 4096 := by omega
      have hcp : ∀ k, (Builtin.copy_ #[31, 9] 3 #[.slice (if (4096 : Nat) = pend.length then some ⟨g, 0, none⟩ else some ⟨g, pend.length, none⟩) (4096 - pend.length) (4096 - pend.length), .string r]).run Tryz.prog (wr.drewN k) = .ok (.int .i64 (r.size : Int)) ((wr.drewN k).setRow g (laid cur pend.length r.data.toList)) := fun k => by
        have h := run_copy_str (P := Tryz.prog) (wr.drewN k) 31 9 3 5 Tryz.underlying31 (by kernel_rfl) (s := r) (g := g) (off := pend.length) (dLen := 4096 - pend.length) (dCap := 4096 - pend.length)
          (dp := if (4096 : Nat) = pend.length then some ⟨g, 0, none⟩ else some ⟨g, pend.length, none⟩) (cur := cur) HG.out (fun _ h => if_neg (by omega)) (by have := HSz.out; omega)
        have e1 : min r.size (4096 - pend.length) = r.size := by omega
        have e2 : r.data.toList.take (4096 - pend.length) = r.data.toList := List.take_of_length_le (by have : r.size = r.data.toList.length := rfl; omega)
        rw [e1, e2] at h
        exact h
      go_wp2_with (go_at_call 238; refine (avail_any b g _ _ ?_ ?_ hc1 hc2).mono ?_; omega; omega; rintro e w1 ⟨rfl, k1, rfl⟩)
      go_region
      have hcs : ∀ k, ((wr.drewN k).setRow g (laid cur pend.length r.data.toList)).cell? ⟨b, 2, none⟩ = some (.int .i64 (pend.length : Int)) := fun k => (cell_setRow_other _ _ _ _ hbg).trans hc2
      have hfs : ∀ k, ((wr.drewN k).setRow g (laid cur pend.length r.data.toList)).frozen? ⟨b, 2, none⟩ = false := fun k => (World.frozen?_of_block (setRow_other _ _ _ _ hbg)).trans hfb
      go_wp2
      all_goals
        go_ret2
        refine ⟨?_, Fr, ⟨inner, pend ++ r.data.toList, BufP.step hs HSz.out HTk.out HOk.out HI.out hbg hFb hFg HF.out HKR.out ?_ ?_ ?_ ?_, ?_⟩, HFr.out, ?_⟩
        · have := HJR.out
          exact congrArg (fun x => Ending.returned (.tuple #[.int .i64 x, .nilIface])) (by omega)
        · have : r.data.toList.length = r.size := rfl
          omega
        · refine (heap_setCell_at _ ((setRow_other _ _ _ _ hbg).trans HB.out)).trans ?_
          simp
        · exact (Below.heap_setCell _ _ _ _ hbg').trans (setRow_heap _ _ _ _ _ _ HG.out)
        · exact (((Upd.refl _ wr).drewN _).setRow (.inl (.inr rfl)) _).setCell (.inl (.inl rfl)) _
        · rw [← List.append_assoc, HL.out]
        · exact hU.trans' ((((Upd.refl Fr wr).drewN _).setRow (.inl ((HF.out g).2 (.inr (.inl rfl)))) _).setCell (.inl ((HF.out b).2 (.inl rfl))) _) HFr.out
end Go.Proofs.YtmdkpihlhdjjaaaGreatFmt
