/-
  n010_73.FnUnquotedWordUndoesEscaping: whatever the input, true.
-/
import Derived.Test.YtabpbmmkkolpbaaGreatFmtU73X
import Derived.Laws.IdiomStrings
namespace Go.Proofs.YtabpbmmkkolpbaaGreatFmt
open Go.RowKit

theorem str_of_row {w : World} {v : Value} {l : List UInt8} (h : Row w v l) : (convert 31 9 v).run Tryz.prog w = .ok (.string ⟨l.toArray⟩) w := by
  rcases h.2 with ⟨rfl, h0⟩ | ⟨g, cap, cur, rfl, _, hg, _, _, _, htk⟩
  · obtain rfl := List.length_eq_zero_iff.1 h0
    rw [run_convert_bytes_string w 31 9 5 none 0 0 Tryz.underlying31 Tryz.underlying5 Tryz.underlying9]
    rfl
  · refine run_convert_bytes_back w 31 9 5 ⟨g, 0, none⟩ cap l Tryz.underlying31 Tryz.underlying5 Tryz.underlying9 (fun j hj => ?_)
    exact h.cells rfl j _ (by rw [bv_getElem?, List.getElem?_eq_getElem hj]; rfl)

theorem u73_bytes (s : ByteArray) (w : World) (hs : s.size ≤ maxLen) : Calls Tryz.prog 16 #[.string s] w fun e w' => e = .returned (.bool (decide (s.size ≤ 1048576))) ∧ w' = w := by
  unfold maxLen at hs
  by_cases h : s.size ≤ 1048576
  all_goals
    have h1 : (s.size : Int) ≤ 9223372036854775807 := by omega
    have h2 : decide ((s.size : Int) > 1048576) = !decide (s.size ≤ 1048576) := by simp [h]; omega
    simp only [h, decide_true, decide_false, Bool.not_true, Bool.not_false] at h2 ⊢
    go_enter Tryz.func16, Tryz.ntmps16
    go_wp2
    go_ret
    exact ⟨rfl, rfl⟩

/-- What the loop of the law keeps: the escaped bytes so far. -/
def EscAt (w wr : World) (sL : List UInt8) (j : Nat) (v : Value) : Prop := Row wr v (escL (sL.take j)) ∧ (∀ k, v.ownBlock = some k → w.heap.size ≤ k) ∧ Upd (fun _ => False) w wr

theorem EscAt.push {w wr : World} {l : List UInt8} {v : Value} (h : Row wr v l ∧ (∀ k, v.ownBlock = some k → w.heap.size ≤ k) ∧ Upd (fun _ => False) w wr) (c : UInt8) (hl : l.length + 1 ≤ LIM) :
    ∃ ao cap w', (Builtin.append_ #[31, 31] 31 #[v, .slice (some ⟨wr.heap.size, 0, none⟩) 1 1]).run Tryz.prog (wr.alloc (.cells #[B8 c] 5)) = .ok (.slice ao (l.length + 1) cap) w' ∧
      (Row w' (.slice ao (l.length + 1) cap) (l ++ [c]) ∧ (∀ k, (Value.slice ao (l.length + 1) cap).ownBlock = some k → w.heap.size ≤ k) ∧ Upd (fun _ => False) w w') := by
  obtain ⟨hr, hf, hu⟩ := h
  have hrd : SliceRd (wr.alloc (.cells #[B8 c] 5)) (fun _ => False) (.slice (some ⟨wr.heap.size, 0, none⟩) 1 1) [c] := by
    refine .inr ⟨⟨wr.heap.size, 0, none⟩, 1, rfl, fun _ h => h, fun j u hj => ?_⟩
    cases j with
    | zero => rw [Addr.add_lit, cell_at (heap_alloc_new _ _)]; simpa [bv] using hj
    | succ j => simp [bv] at hj
  obtain ⟨v', w', h1, h2, h3, h4⟩ := append_row (hr.stable ((Upd.refl (fun _ => False) wr).alloc _) (fun _ _ h => h)) hrd (by simpa using hl)
  obtain ⟨ao, cap, rfl⟩ : ∃ ao cap, v' = .slice ao (l.length + 1) cap := by
    have := h2.form
    simpa using this
  have hsz := hu.size
  refine ⟨ao, cap, w', h1, h2, fun k hk => ?_, ?_⟩
  · rcases h4 k hk with h | h
    · exact hf k h
    · simp at h; omega
  · refine (((hu.mono (G := fun k => w.heap.size ≤ k) (fun _ h => h.elim)).alloc _).grown h3 fun k hk => .inl (hf k hk)).strict fun k hk => hk

set_option maxRecDepth 100000 in
set_option maxHeartbeats 2000000 in
theorem u73_main (s : ByteArray) (w : World) (hs : s.size ≤ maxLen) : Calls Tryz.prog 7 #[.string s] w fun e w' => e = .returned (.bool true) ∧ Below w.heap.size w w' := by
  have hs' := hs
  unfold maxLen at hs'
  by_cases h1 : s.size ≤ 524288
  · obtain ⟨n, hn⟩ : ∃ n, n = s.size := ⟨_, rfl⟩
    have hsn : (s.size : Int) = (n : Int) := by omega
    have hnb : (n : Int) ≤ 524288 := by omega
    have hb : decide (s.size ≤ 1048576) = true := by simp; omega
    have HBy := Lib.hid (u73_bytes s w hs)
    rw [hb] at HBy
    obtain ⟨i, hi, hz, hsz, hby⟩ : ∃ i, Tryz.prog.info? 5 = some i ∧ i.zero = some (.int .u8 0) ∧ i.size = 1 ∧ i.bytes = 1 := ⟨_, rfl, rfl, rfl, rfl⟩
    obtain ⟨w1, hmk, hown, hgr⟩ := run_make_own (P := Tryz.prog) w w.heap.size 31 5 i _ 1 Tryz.underlying31 hi hz hsz .i64 .i64 (2 * n) (by rw [hby]; omega) (by unfold maxLen; omega) (Nat.le_refl _)
    have hmk' : (Instr.makeSlice 31 (.int .i64 0) (.int .i64 (2 * (n : Int)))).run Tryz.prog w = .ok (.slice (some ⟨w.heap.size, 0, none⟩) 0 (2 * n)) w1 := hmk
    have hE0 : EscAt w w1 s.data.toList 0 (.slice (some ⟨w.heap.size, 0, none⟩) 0 (2 * n)) := by
      refine ⟨by simpa [Row, escL] using Row.mono hown, fun k hk => ?_, (Upd.refl _ w).grown hgr (fun k hk => by cases hk)⟩
      simp [Value.ownBlock] at hk
      omega
    have HE0 := Lib.hid hE0
    clear hmk hown hgr hi hz hsz hby hE0 hb hs h1 hs'
    have HN := Lib.hid hn
    clear hn
    go_enter Tryz.func7, Tryz.ntmps7
    go_wp2_with (go_at_call 16; refine HBy.out.mono ?_; rintro e w2 ⟨rfl, rfl⟩)
    go_loopg [3, 4] n (fun k v3 v4 wr => ∃ (j : Nat) (v : Value), v4 = .int .i64 (j : Int) ∧ v = v3 ∧ j + k = n ∧ EscAt w2 wr s.data.toList j v)
    case atStart => exact ⟨0, _, rfl, rfl, by omega, HE0.out⟩
    case round =>
      obtain ⟨j, v, rfl, rfl, hjk, hE⟩ := hrel
      have HJ := Lib.hid hjk
      clear hmk' hjk
      by_cases hlt : j < n
      · have hjs : j < s.size := by have := HN.out; omega
        have hjl : j < s.data.toList.length := hjs
        have hj64 : (j : Int) < (n : Int) := by omega
        have hlen : (escL (s.data.toList.take j)).length = 2 * j := by rw [escL_length, List.length_take]; omega
        obtain ⟨ao1, cap1, w3, hr1, hE1⟩ := EscAt.push hE 92 (by rw [hlen]; unfold LIM; omega)
        have hr1' : (Builtin.append_ #[31, 31] 31 #[v, .slice (some ⟨wr.heap.size, 0, none⟩) 1 1]).run Tryz.prog (wr.alloc (.cells #[.int .u8 92] 5)) = .ok (.slice ao1 ((escL (s.data.toList.take j)).length + 1) cap1) w3 := hr1
        obtain ⟨ao2, cap2, w4, hr2, hE2⟩ := EscAt.push hE1 s[j] (by rw [List.length_append, hlen]; unfold LIM; simp; omega)
        rw [List.length_append, hlen] at hr2 hE2
        rw [hlen] at hr1'
        have HR1 := Lib.hid hr1'
        have HR2 := Lib.hid hr2
        have HE2 := Lib.hid hE2
        clear hr1 hr1' hr2 hE hE1 hE2 hlen
        go_wp2_with (at_builtin; first | refine wpList_append_run rfl _ _ _ rfl rfl rfl HR1.out ?_ | refine wpList_append_run rfl _ _ _ rfl rfl rfl HR2.out ?_)
        go_roundg (n - (j + 1))
        case measure => have := HJ.out; omega
        case rel =>
          refine ⟨j + 1, _, by go_num, rfl, by omega, ?_⟩
          have e : escL (s.data.toList.take (j + 1)) = escL (s.data.toList.take j) ++ [92] ++ [s[j]] := by
            have e1 : s.data.toList.take (j + 1) = s.data.toList.take j ++ [s[j]] := by
              rw [List.take_add_one, List.getElem?_eq_getElem hjl]
              rfl
            rw [e1]
            simp [escL]
          unfold EscAt
          rw [e]
          exact HE2.out
      · have hjn : s.data.toList.take j = s.data.toList := List.take_of_length_le (by have := HN.out; have h : s.data.toList.length = s.size := rfl; omega)
        obtain ⟨hrow, _, hu⟩ := hE
        rw [hjn] at hrow
        obtain ⟨g, hg⟩ : ∃ g, g = wr.heap.size := ⟨_, rfl⟩
        obtain ⟨i2, hi, hz, hsz, hby⟩ : ∃ i, Tryz.prog.info? 9 = some i ∧ i.zero = some (.string ⟨#[]⟩) ∧ i.size = 1 ∧ i.bytes = 16 := ⟨_, rfl, rfl, rfl, rfl⟩
        have hmk : (Instr.makeSlice 32 (.int .i64 1) (.int .i64 1)).run Tryz.prog wr = .ok (.slice (some ⟨wr.heap.size, 0, none⟩) 1 1) (wr.alloc (.cells #[.string ⟨#[]⟩] 9)) := by
          have h := run_make (P := Tryz.prog) wr 32 9 i2 _ Tryz.underlying32 hi hz .i64 .i64 1 1 (by decide) (by decide) (by rw [hby]; decide) (by decide)
          rw [hsz] at h
          exact h.trans (congrArg (fun x => Result.ok _ (wr.alloc (.cells x 9))) (by kernel_rfl))
        have hnew := heap_alloc_new wr (.cells #[.string ⟨#[]⟩] 9)
        have hcv := str_of_row (hrow.stable ((Upd.refl (fun _ => False) wr).alloc (.cells #[.string ⟨#[]⟩] 9)) (fun _ _ h => h))
        have hc := cell_at hnew 0
        have hf := frozen_at hnew 0
        have HNew := Lib.hid hnew
        have HU := Lib.hid hu
        clear hnew hrow hu hi hz hsz hby hg hjn
        obtain ⟨Q1, HQ1, HWd⟩ := callsVar (u73_word ⟨(escL s.data.toList).toArray⟩ wr.heap.size (wr.alloc (.cells #[.string ⟨(escL s.data.toList).toArray⟩] 9)) (cell_at (heap_alloc_new _ _) 0))
        go_wp2_with (go_at_call 18; refine HWd.out.mono ?_)
        rintro e w5 hq
        obtain ⟨wb, gp, cap, lb, rfl, h1, h2, h3, hU5⟩ := HQ1.out e w5 hq
        clear hq
        obtain ⟨Q2, HQ2, HUq⟩ := callsVar (u73_unq (sL := s.data.toList) h1 h2 h3 (by simp) (by have h : s.data.toList.length = s.size := rfl; rw [h]; unfold LIM; have := HN.out; omega))
        have HU5 := Lib.hid hU5
        clear h1 h2 h3 hU5
        go_wp2_with (go_at_call 17; refine HUq.out.mono ?_)
        rintro e w6 hq
        obtain ⟨r, rfl, hr, hU6⟩ := HQ2.out e w6 hq
        clear hq
        obtain rfl : r = s := ByteArray.ext (Array.toList_inj.1 hr)
        have HU6 := Lib.hid hU6
        clear hr hU6
        go_wp2
        go_ret
        exact ⟨by simp, (((HU.out.alloc _).trans HU5.out).trans HU6.out).below (fun _ h => h.elim) (Nat.le_refl _)⟩
  · have HBy := Lib.hid (u73_bytes s w hs)
    clear hs
    have hlen : (s.size : Int) ≤ 9223372036854775807 := by omega
    have hbig : decide ((s.size : Int) > 524288) = true := by simp; omega
    by_cases h2 : s.size ≤ 1048576
    all_goals
      simp only [h2, decide_true, decide_false] at HBy
      go_enter Tryz.func7, Tryz.ntmps7
      go_wp2_with (go_at_call 16; refine HBy.out.mono ?_; rintro e w2 ⟨rfl, rfl⟩)
      go_ret
      exact ⟨rfl, Below.refl _ _⟩
end Go.Proofs.YtabpbmmkkolpbaaGreatFmt
