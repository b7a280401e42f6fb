/-
  bufio.Writer.WriteString over a sink that is no io.StringWriter.
-/
import Derived.Test.YtjljnfmacechfaaGreatFmtMb
import Derived.Test.YtjljnfmacechfaaGreatFmtMa
import Derived.Deep.LoopGhost
namespace Go.Proofs.YtjljnfmacechfaaGreatFmt
open Go.RowKit

/-- The sink's type has no WriteString. -/
def Sink.NoSW (P : Program) (s : Sink) : Prop :=
  ∀ w, (Instr.typeAssert (.iface s.ty (.pointer (some s.ptr))) 106 381 true).run P w = .ok (.tuple #[.nilIface, .bool false]) w

/-- The buffer after some bytes were laid into it. -/
theorem BufP.step {P : Program} {fuel : Nat} {s : Sink} (hs : s.Law P fuel) {b g : Nat} {w W : World} {F Fs : Nat → Prop} {inner pend d : List UInt8} {cur : Array Value}
    (hsz : cur.size = 4096) (htk : cur.toList.take pend.length = bv pend) (hok : ∀ c ∈ pend, s.okb c = true) (hI : s.I w Fs inner) (hbg : b ≠ g) (hFb : ¬ Fs b) (hFg : ¬ Fs g) (hF : ∀ k, F k ↔ k = b ∨ k = g ∨ Fs k)
    (hd : ∀ c ∈ d, s.okb c = true) (hfit : pend.length + d.length ≤ 4096)
    (hb' : W.heap[b]? = some (.cells #[.nilIface, .slice (some ⟨g, 0, none⟩) 4096 4096, .int .i64 ((pend ++ d).length : Int), .iface s.ty (.pointer (some s.ptr))] 114 (0, 0)))
    (hg' : W.heap[g]? = some (.cells (laid cur pend.length d) 5 (0, 0))) (hu : Upd (fun k => k = b ∨ k = g) w W) : BufP s b W F inner (pend ++ d) := by
  refine ⟨g, _, Fs, hb', hg', by rw [laid_size (by omega), hsz], by rw [List.length_append]; omega, laid_take htk, ?_, ?_, hbg, hFb, hFg, hF⟩
  · intro c hc
    rcases List.mem_append.1 hc with h | h
    · exact hok c h
    · exact hd c h
  · exact hs.stable hI hu fun k hk e => by rcases e with rfl | rfl; exact hFb hk; exact hFg hk

theorem extract_drop (r : ByteArray) (m : Nat) : (r.extract m r.size).data.toList = r.data.toList.drop m := by
  rw [ByteArray.data_extract, Array.toList_extract, List.extract_eq_take_drop]
  exact List.take_of_length_le (by rw [List.length_drop]; exact Nat.le_refl _)

/-- What the loop of WriteString keeps. -/
def WsInv (S : Sink) (b : Nat) (F : Nat → Prop) (w : World) (l : List UInt8) (s : ByteArray) (r : ByteArray) (wr : World) (inner pend : List UInt8) : Prop :=
  ∃ (Fr : Nat → Prop), BufP S b wr Fr inner pend ∧ (∀ k, Fr k → F k ∨ w.heap.size ≤ k) ∧ Upd F w wr ∧ inner ++ pend ++ r.data.toList = l ++ s.data.toList ∧ (∀ c ∈ r.data.toList, S.okb c = true)

set_option maxRecDepth 100000 in
set_option maxHeartbeats 1000000 in
theorem ws_nosw {S : Sink} (hs : S.Law Tryz.prog 529) (hsw : S.NoSW Tryz.prog) {b : Nat} {w : World} {F : Nat → Prop} {l : List UInt8} (s : ByteArray) (h : BufW S b w F l) (hk : ∀ c ∈ s.data.toList, S.okb c = true) (hl : l.length + s.size ≤ LIM) :
    Calls Tryz.prog 216 #[.pointer (some ⟨b, 0, none⟩), .string s] w fun e w' => e = .returned (.tuple #[.int .i64 (s.size : Int), .nilIface]) ∧ ∃ F', BufW S b w' F' (l ++ s.data.toList) ∧ (∀ k, F' k → F k ∨ w.heap.size ≤ k) ∧ Upd F w w' := by
  obtain ⟨inner0, pend0, hp0, hl0⟩ := h
  have HP0 := Lib.hid hp0; clear hp0
  have HL0 := Lib.hid hl0; clear hl0
  have HK := Lib.hid hk; clear hk
  have HLim := Lib.hid hl; clear hl
  have hsize : (s.size : Int) ≤ 1099511627776 := by have := HLim.out; unfold LIM at this; omega
  go_enter Tryz.func216, Tryz.ntmps216
  go_wp2_with fail
  go_loopg [1, 6, 7, 8] (s.size + pend0.length) (fun k v1 v6 v7 v8 wr => ∃ (r : ByteArray) (j : Nat) (tb : Bool) (inner pend : List UInt8), v1 = .string r ∧ v6 = .nilIface ∧ v7 = .bool tb ∧ v8 = .int .i64 j ∧ j + r.size = s.size ∧ WsInv S b F w l s r wr inner pend ∧ k = r.size + pend.length)
  case atStart =>
    refine ⟨s, 0, true, inner0, pend0, rfl, rfl, rfl, rfl, by omega, ⟨F, HP0.out, fun k hk => .inl hk, Upd.refl _ _, by rw [HL0.out], HK.out⟩, rfl⟩
  case round =>
    obtain ⟨r, j, tb, inner, pend, rfl, rfl, rfl, rfl, hjr, hinv, rfl⟩ := hrel
    obtain ⟨Fr, hP, hFr, hU, hl', hkr⟩ := hinv
    have HP := Lib.hid hP
    obtain ⟨g, cur, Fs, hb, hg, hsz, hn, htk, hok, hI, hbg, hFb, hFg, hF⟩ := hP
    have HJR := Lib.hid hjr; clear hjr
    have HL := Lib.hid hl'; clear hl'
    have HKR := Lib.hid hkr; clear hkr
    have HB := Lib.hid hb
    have HG := Lib.hid hg
    have hc0 : wr.cell? ⟨b, 0, none⟩ = some .nilIface := cell_at hb 0
    have hc1 : wr.cell? ⟨b, 1, none⟩ = some (.slice (some ⟨g, 0, none⟩) 4096 4096) := cell_at hb 1
    have hc2 : wr.cell? ⟨b, 2, none⟩ = some (.int .i64 (pend.length : Int)) := cell_at hb 2
    have hc3 : wr.cell? ⟨b, 3, none⟩ = some (.iface S.ty (.pointer (some S.ptr))) := cell_at hb 3
    have hfb : wr.frozen? ⟨b, 2, none⟩ = false := frozen_at hb 2
    have hbg' : ¬ g = b := fun e => hbg e.symm
    have hbj : (j : Int) + (r.size : Int) ≤ 1099511627776 := by have := HJR.out; omega
    have hn' : (pend.length : Int) ≤ 4096 := by omega
    have HSz := Lib.hid hsz; clear hsz
    have HTk := Lib.hid htk; clear htk
    have HF := Lib.hid hF; clear hF
    have HI := Lib.hid hI; clear hI
    have HOk := Lib.hid hok; clear hok
    have HFr := Lib.hid hFr; clear hFr
    clear hb hg
    by_cases hgt : 4096 - (pend.length : Int) < (r.size : Int)
    · obtain ⟨m, hm⟩ : ∃ m : Nat, m = 4096 - pend.length := ⟨_, rfl⟩
      have hm1 : pend.length + m ≤ 4096 := by omega
      have hm2 : 4096 ≤ pend.length + m := by omega
      have hm3 : (m : Int) < (r.size : Int) := by omega
      have hmr : m ≤ r.size := by omega
      have hta : ∀ w, (Instr.typeAssert (.iface S.ty (.pointer (some S.ptr))) 106 381 true).run Tryz.prog w = .ok (.tuple #[.nilIface, .bool false]) w := hsw
      have htl : (r.data.toList.take m).length = m := by have : r.data.toList.length = r.size := rfl; rw [List.length_take]; omega
      have hcp : ∀ k, (Builtin.copy_ #[22, 9] 3 #[.slice (if (4096 : Nat) = pend.length then some ⟨g, 0, none⟩ else some ⟨g, pend.length, none⟩) (4096 - pend.length) (4096 - pend.length), .string r]).run Tryz.prog (wr.drewN k) = .ok (.int .i64 (m : Int)) ((wr.drewN k).setRow g (laid cur pend.length (r.data.toList.take m))) := fun k => by
        have h := run_copy_str (P := Tryz.prog) (wr.drewN k) 22 9 3 5 Tryz.underlying22 (by kernel_rfl) (s := r) (g := g) (off := pend.length) (dLen := 4096 - pend.length) (dCap := 4096 - pend.length)
          (dp := if (4096 : Nat) = pend.length then some ⟨g, 0, none⟩ else some ⟨g, pend.length, none⟩) (cur := cur) HG.out (fun _ h => if_neg (by omega)) (by have := HSz.out; omega)
        have e1 : min r.size (4096 - pend.length) = m := by omega
        rw [e1, ← hm] at h
        rw [← hm]
        exact h
      have hcs : ∀ k, ((wr.drewN k).setRow g (laid cur pend.length (r.data.toList.take m))).cell? ⟨b, 2, none⟩ = some (.int .i64 (pend.length : Int)) := fun k => (cell_setRow_other _ _ _ _ hbg).trans hc2
      have hfs : ∀ k, ((wr.drewN k).setRow g (laid cur pend.length (r.data.toList.take m))).frozen? ⟨b, 2, none⟩ = false := fun k => (World.frozen?_of_block (setRow_other _ _ _ _ hbg)).trans hfb
      have hU1 : ∀ k, Upd (fun k => k = b ∨ k = g) wr (((wr.drewN k).setRow g (laid cur pend.length (r.data.toList.take m))).setCell ⟨b, 2, none⟩ (.int .i64 ((pend.length : Int) + (m : Int)))) := fun k =>
        (((Upd.refl _ wr).drewN _).setRow (.inl (.inr rfl)) _).setCell (.inl (.inl rfl)) _
      have HU1 := Lib.hid hU1; clear hU1
      have hFl : ∀ k, Calls Tryz.prog 214 #[.pointer (some ⟨b, 0, none⟩)] (((wr.drewN k).setRow g (laid cur pend.length (r.data.toList.take m))).setCell ⟨b, 2, none⟩ (.int .i64 ((pend.length : Int) + (m : Int)))) fun e w' =>
          e = .returned .nilIface ∧ BufPost S b Fr (((wr.drewN k).setRow g (laid cur pend.length (r.data.toList.take m))).setCell ⟨b, 2, none⟩ (.int .i64 ((pend.length : Int) + (m : Int)))) (inner ++ (pend ++ r.data.toList.take m)) [] w' := fun k =>
        flush_any hs (BufP.step hs HSz.out HTk.out HOk.out HI.out hbg hFb hFg HF.out (fun c hc => HKR.out c (List.mem_of_mem_take hc)) (by omega)
          ((heap_setCell_at _ ((setRow_other _ _ _ _ hbg).trans HB.out)).trans (by simp [hmr])) ((Below.heap_setCell _ _ _ _ hbg').trans (setRow_heap _ _ _ _ _ _ HG.out)) (HU1.out k)) (by
            have h1 := congrArg List.length HL.out
            have h2 := HLim.out
            have h3 : s.data.toList.length = s.size := rfl
            have h4 : r.data.toList.length = r.size := rfl
            simp only [List.length_append] at h1 ⊢
            omega)
      have HFl := Lib.hid hFl; clear hFl
      have HM := Lib.hid hm; clear hm
      have HTL := Lib.hid htl; clear htl
      rcases Bool.eq_false_or_eq_true ((pend.length : Int) == 0) with hz | hz <;> cases tb
      all_goals
        go_wp2_with (first
          | (go_at_call 213; refine (avail_any b g _ _ ?_ ?_ hc1 hc2).mono ?_; omega; omega; rintro e w1 ⟨rfl, k1, rfl⟩)
          | (go_at_call 217; refine (buffered_any b (pend.length : Int) _ ?_).mono ?_; exact hc2; rintro e w1 ⟨rfl, rfl⟩))
        go_region
        all_goals
          go_wp2_with (go_at_call 214; refine (HFl.out _).mono ?_; rintro e w2 ⟨rfl, hP2⟩; have HP2 := Lib.hid hP2; clear hP2)
        all_goals
          go_roundg (r.size - m)
          case measure => omega
          case rel =>
            obtain ⟨F2, h1, h2, h3⟩ := HP2.out
            refine ⟨r.extract m r.size, j + m, _, inner ++ (pend ++ r.data.toList.take m), [], rfl, rfl, rfl, by go_num, ?_, ⟨F2, h1, ?_, ?_, ?_, ?_⟩, ?_⟩
            · have := HJR.out; simp; omega
            · intro k hk
              rcases h2 k hk with h | h
              · exact HFr.out k h
              · exact .inr (Nat.le_trans hU.size (by simpa using h))
            · exact hU.trans' ((((HU1.out _).mono fun k hk => (HF.out k).2 (by rcases hk with h | h; exact .inl h; exact .inr (.inl h))).trans h3)) HFr.out
            · rw [← HL.out, List.append_nil, extract_drop]
              simp
            · intro c hc
              rw [extract_drop] at hc
              exact HKR.out c (List.mem_of_mem_drop hc)
            · simp
    · have hgt' : decide ((r.size : Int) > 4096 - (pend.length : Int)) = false := by simp; omega
      have hle : (pend.length : Int) + (r.size : Int) ≤ 4096 := by omega
      have hcp : ∀ k, (Builtin.copy_ #[22, 9] 3 #[.slice (if (4096 : Nat) = pend.length then some ⟨g, 0, none⟩ else some ⟨g, pend.length, none⟩) (4096 - pend.length) (4096 - pend.length), .string r]).run Tryz.prog (wr.drewN k) = .ok (.int .i64 (r.size : Int)) ((wr.drewN k).setRow g (laid cur pend.length r.data.toList)) := fun k => by
        have h := run_copy_str (P := Tryz.prog) (wr.drewN k) 22 9 3 5 Tryz.underlying22 (by kernel_rfl) (s := r) (g := g) (off := pend.length) (dLen := 4096 - pend.length) (dCap := 4096 - pend.length)
          (dp := if (4096 : Nat) = pend.length then some ⟨g, 0, none⟩ else some ⟨g, pend.length, none⟩) (cur := cur) HG.out (fun _ h => if_neg (by omega)) (by have := HSz.out; omega)
        have e1 : min r.size (4096 - pend.length) = r.size := by omega
        have e2 : r.data.toList.take (4096 - pend.length) = r.data.toList := List.take_of_length_le (by have : r.size = r.data.toList.length := rfl; omega)
        rw [e1, e2] at h
        exact h
      go_wp2_with (go_at_call 213; refine (avail_any b g _ _ ?_ ?_ hc1 hc2).mono ?_; omega; omega; rintro e w1 ⟨rfl, k1, rfl⟩)
      go_region
      have hcs : ∀ k, ((wr.drewN k).setRow g (laid cur pend.length r.data.toList)).cell? ⟨b, 2, none⟩ = some (.int .i64 (pend.length : Int)) := fun k => (cell_setRow_other _ _ _ _ hbg).trans hc2
      have hfs : ∀ k, ((wr.drewN k).setRow g (laid cur pend.length r.data.toList)).frozen? ⟨b, 2, none⟩ = false := fun k => (World.frozen?_of_block (setRow_other _ _ _ _ hbg)).trans hfb
      go_wp2
      all_goals
        go_ret2
        refine ⟨?_, Fr, ⟨inner, pend ++ r.data.toList, BufP.step hs HSz.out HTk.out HOk.out HI.out hbg hFb hFg HF.out HKR.out ?_ ?_ ?_ ?_, ?_⟩, HFr.out, ?_⟩
        · have := HJR.out
          exact congrArg (fun x => Ending.returned (.tuple #[.int .i64 x, .nilIface])) (by omega)
        · have : r.data.toList.length = r.size := rfl
          omega
        · refine (heap_setCell_at _ ((setRow_other _ _ _ _ hbg).trans HB.out)).trans ?_
          simp
        · exact (Below.heap_setCell _ _ _ _ hbg').trans (setRow_heap _ _ _ _ _ _ HG.out)
        · exact (((Upd.refl _ wr).drewN _).setRow (.inl (.inr rfl)) _).setCell (.inl (.inl rfl)) _
        · rw [← List.append_assoc, HL.out]
        · exact hU.trans' ((((Upd.refl Fr wr).drewN _).setRow (.inl ((HF.out g).2 (.inr (.inl rfl)))) _).setCell (.inl ((HF.out b).2 (.inl rfl))) _) HFr.out
end Go.Proofs.YtjljnfmacechfaaGreatFmt
