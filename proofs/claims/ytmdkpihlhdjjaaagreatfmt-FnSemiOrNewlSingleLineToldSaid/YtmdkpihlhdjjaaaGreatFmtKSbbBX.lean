/-
  bytes.Buffer: grow with no row.
  bytes.Buffer: grow with no row, a long text.
  bytes.Buffer as a lawful sink: Write.
  bytes.Buffer: String.
  bytes.Buffer: WriteString.
-/
import Derived.Test.YtmdkpihlhdjjaaaGreatFmtKSbbA
import Derived.Test.YtmdkpihlhdjjaaaGreatFmtKMaX
namespace Go.Proofs.YtmdkpihlhdjjaaaGreatFmt
open Go.RowKit

set_option maxHeartbeats 4000000 in
set_option maxRecDepth 100000 in
theorem bb_grow_small (b n : Nat) (lr : Int) (w : World) (hbk : w.heap[b]? = some (.cells #[.slice none 0 0, .int .i64 0, .int .i8 lr] 131 (0, 0))) (hn : 1 ≤ n) (h64 : n ≤ 64) :
    Calls Tryz.prog 260 #[.pointer (some ⟨b, 0, none⟩), .int .i64 (n : Int)] w fun e w' => e = .returned (.int .i64 0) ∧ BbGrown b w [] n lr w' := by
  have hnil : ∀ W, (binOp .eql 31 (.slice none 0 0) (.slice none 0 0)).run Tryz.prog W = .ok (.bool true) W := fun W => Lib.run_eql_slice_nil_nil W _ _ Tryz.underlying31
  obtain ⟨cur, hcs, hmk⟩ : ∃ cur : Array Value, cur.size = 64 ∧ ∀ W, (Instr.makeSlice 31 (.int .i64 (n : Int)) (.int .i64 64)).run Tryz.prog W = .ok (.slice (some ⟨W.heap.size, 0, none⟩) n 64) (W.alloc (.cells cur 5)) := by
    obtain ⟨i, hi, hz, hsz, hby⟩ : ∃ i, Tryz.prog.info? 5 = some i ∧ i.zero = some (.int .u8 0) ∧ i.size = 1 ∧ i.bytes = 1 := ⟨_, rfl, rfl, rfl, rfl⟩
    refine ⟨_, ?_, fun W => run_make W 31 5 i _ Tryz.underlying31 hi hz .i64 .i64 n 64 (by omega) (by omega) (by rw [hby]; decide) (by decide)⟩
    rw [hsz]
    simp [madeCells, Value.cells]
  have c0 : w.cell? ⟨b, 0, none⟩ = some (.slice none 0 0) := cell_at hbk 0
  have c1 : w.cell? ⟨b, 1, none⟩ = some (.int .i64 0) := cell_at hbk 1
  have f0 : w.frozen? ⟨b, 0, none⟩ = false := frozen_at hbk 0
  have hn0 : 0 < n := hn
  have h64' : (n : Int) ≤ 64 := by omega
  have HBk := Lib.hid hbk; clear hbk
  obtain ⟨Q1, HQ1, HL⟩ := callsVar (bb_len b 0 0 none w c0 c1 (by omega))
  go_enter Tryz.func260, Tryz.ntmps260
  go_wp2_with (go_at_call 261; refine HL.out.mono ?_)
  rintro e w1 hq
  obtain ⟨rfl, k1, hw1⟩ := HQ1.out e w1 hq
  clear hq
  have d0 : w1.cell? ⟨b, 0, none⟩ = some (.slice none 0 0) := hw1 ▸ c0
  have d1 : w1.cell? ⟨b, 1, none⟩ = some (.int .i64 0) := hw1 ▸ c1
  have e0 : w1.frozen? ⟨b, 0, none⟩ = false := hw1 ▸ f0
  have hh1 : w1.heap = w.heap := by rw [hw1]; rfl
  have HBk1 := Lib.hid ((congrArg (·[b]?) hh1).trans HBk.out)
  have a1 : (w1.alloc (.cells cur 5)).cell? ⟨b, 0, none⟩ = some (.slice none 0 0) := cell_at ((Below.heap_alloc _ _ _ (heap_lt HBk1.out)).trans HBk1.out) 0
  have a0 : (w1.alloc (.cells cur 5)).frozen? ⟨b, 0, none⟩ = false := frozen_at ((Below.heap_alloc _ _ _ (heap_lt HBk1.out)).trans HBk1.out) 0
  have HH1 := Lib.hid hh1; clear hh1
  have HU1 := Lib.hid (show Upd (fun k => k = b) w w1 from hw1 ▸ (Upd.refl _ w).drewN k1)
  clear hw1
  go_wp2_with (go_at_call 259; refine (Go.Proofs.Tryz.Buffer_tryGrow_none b none 0 0 n _ ?_ (Nat.le_refl _) (by unfold maxLen; omega) (by omega)).mono ?_; exact d0; rintro e w1 ⟨rfl, rfl⟩)
  go_ret
  have hbs := heap_lt HBk1.out
  have hsz : w1.heap.size = w.heap.size := congrArg Array.size HH1.out
  have hnew := heap_alloc_new w1 (.cells cur 5)
  have hbn : ¬ w1.heap.size = b := by omega
  refine ⟨rfl, w1.heap.size, 64, cur, ?_, ?_, hcs, by unfold maxLen; omega, by simpa using h64, by simp, by omega, ?_⟩
  · refine (heap_setCell_at _ ((Below.heap_alloc _ _ _ hbs).trans HBk1.out)).trans ?_
    simp
  · exact (Below.heap_setCell _ _ _ _ hbn).trans hnew
  · exact (HU1.out.alloc _).setCell (p := ⟨b, 0, none⟩) (.inl rfl) _

end Go.Proofs.YtmdkpihlhdjjaaaGreatFmt

namespace Go.Proofs.YtmdkpihlhdjjaaaGreatFmt
open Go.RowKit

set_option maxHeartbeats 4000000 in
set_option maxRecDepth 100000 in
theorem bb_grow_big (b n : Nat) (lr : Int) (w : World) (hbk : w.heap[b]? = some (.cells #[.slice none 0 0, .int .i64 0, .int .i8 lr] 131 (0, 0))) (h64 : 64 < n) (hlim : n ≤ 140737488355328) :
    Calls Tryz.prog 260 #[.pointer (some ⟨b, 0, none⟩), .int .i64 (n : Int)] w fun e w' => e = .returned (.int .i64 0) ∧ BbGrown b w [] n lr w' := by
  have hnil : ∀ W, (binOp .eql 31 (.slice none 0 0) (.slice none 0 0)).run Tryz.prog W = .ok (.bool true) W := fun W => Lib.run_eql_slice_nil_nil W _ _ Tryz.underlying31
  have c0 : w.cell? ⟨b, 0, none⟩ = some (.slice none 0 0) := cell_at hbk 0
  have c1 : w.cell? ⟨b, 1, none⟩ = some (.int .i64 0) := cell_at hbk 1
  have hn0 : 0 < n := by omega
  have h64' : ¬ (n : Int) ≤ 64 := by omega
  have hle0 : ¬ (n : Int) ≤ 0 := by omega
  have hwn : IntKind.i64.wrap (n : Int) = n := by rw [IntKind.wrap_i64]; omega
  have HBk := Lib.hid hbk; clear hbk
  obtain ⟨Q1, HQ1, HL⟩ := callsVar (bb_len b 0 0 none w c0 c1 (by omega))
  go_enter Tryz.func260, Tryz.ntmps260
  go_wp2_with (go_at_call 261; refine HL.out.mono ?_)
  rintro e w1 hq
  obtain ⟨rfl, k1, hw1⟩ := HQ1.out e w1 hq
  clear hq
  have d0 : w1.cell? ⟨b, 0, none⟩ = some (.slice none 0 0) := hw1 ▸ c0
  have d1 : w1.cell? ⟨b, 1, none⟩ = some (.int .i64 0) := hw1 ▸ c1
  have hh1 : w1.heap = w.heap := by rw [hw1]; rfl
  have HBk1 := Lib.hid ((congrArg (·[b]?) hh1).trans HBk.out)
  have HH1 := Lib.hid hh1; clear hh1
  have HU1 := Lib.hid (show Upd (fun k => k = b) w w1 from hw1 ▸ (Upd.refl _ w).drewN k1)
  clear hw1
  go_wp2_with (go_at_call 259; refine (Go.Proofs.Tryz.Buffer_tryGrow_none b none 0 0 n _ ?_ (Nat.le_refl _) (by unfold maxLen; omega) (by omega)).mono ?_; exact d0; rintro e w1 ⟨rfl, rfl⟩)
  go_region_with (
    go_at_call 262
    refine (Go.Proofs.Tryz.bytes_growSlice_nil n _ (by omega) hlim).mono ?_
    rintro e w2 ⟨cap2, cells, rfl, hN, hcsz, hcap2, hcm2, hbel⟩
    have HB2 := Lib.hid ((hbel.block b (heap_lt HBk1.out)).trans HBk1.out)
    have d0 : w2.cell? ⟨b, 0, none⟩ = some (.slice none 0 0) := cell_at HB2.out 0
    have d1 : w2.cell? ⟨b, 1, none⟩ = some (.int .i64 0) := cell_at HB2.out 1
    have e0 : w2.frozen? ⟨b, 0, none⟩ = false := frozen_at HB2.out 0
    have e1 : w2.frozen? ⟨b, 1, none⟩ = false := frozen_at HB2.out 1
    have HN := Lib.hid hN
    clear hN
    have HBel := Lib.hid hbel
    clear hbel
    have HSz2 := Lib.hid hcsz
    clear hcsz)
  all_goals
    go_wp2
    go_ret
    have hsz := HBel.out.size
    have hh : w1.heap.size = w.heap.size := congrArg Array.size HH1.out
    have hdr : w1.drew.heap.size = w1.heap.size := rfl
    have hbs := heap_lt HBk1.out
    have hN : w2.heap[w1.heap.size]? = some (.cells cells 5 (0, 0)) := HN.out
    have hbn : ¬ w1.heap.size = b := by omega
    refine ⟨rfl, w1.heap.size, cap2, cells, ?_, ?_, HSz2.out, hcm2, by simpa using hcap2, by simp, by omega, ?_⟩
    · refine (heap_setCell_at _ (heap_setCell_at _ (heap_setCell_at _ HB2.out))).trans ?_
      simp
    · exact (Below.heap_setCell _ _ _ _ hbn).trans ((Below.heap_setCell _ _ _ _ hbn).trans ((Below.heap_setCell _ _ _ _ hbn).trans hN))
    · have h2 : Upd (fun k => k = b) w w2 := HU1.out.drew.trans (Upd.of_below HBel.out _)
      exact ((h2.setCell (p := ⟨b, 0, none⟩) (.inl rfl) _).setCell (p := ⟨b, 1, none⟩) (.inl rfl) _).setCell (p := ⟨b, 0, none⟩) (.inl rfl) _
end Go.Proofs.YtmdkpihlhdjjaaaGreatFmt

namespace Go.Proofs.YtmdkpihlhdjjaaaGreatFmt
open Go.RowKit

/-- A bytes.Buffer at block b that holds l and from which nothing has been read; the blocks of F are its own and its row's. -/
def bbI (b : Nat) (w : World) (F : Nat → Prop) (l : List UInt8) : Prop :=
  ∃ v lr, w.heap[b]? = some (.cells #[v, .int .i64 0, .int .i8 lr] 131 (0, 0)) ∧ Row w v l ∧ v.ownBlock ≠ some b ∧ ∀ k, F k ↔ k = b ∨ v.ownBlock = some k

/-- A buffer whose slice has been made longer by n, its old bytes as they were. -/
def BbOpen (b : Nat) (w : World) (F : Nat → Prop) (l : List UInt8) (n : Nat) (w' : World) (g cap : Nat) (cur : Array Value) : Prop :=
  w'.heap[b]? = some (.cells #[.slice (some ⟨g, 0, none⟩) (l.length + n) cap, .int .i64 0, .int .i8 0] 131 (0, 0)) ∧ w'.heap[g]? = some (.cells cur 5 (0, 0)) ∧ cur.size = cap ∧ cap ≤ maxLen ∧ l.length + n ≤ cap ∧
    cur.toList.take l.length = bv l ∧ (F g ∨ w.heap.size ≤ g) ∧ b ≠ g ∧ Upd F w w'

theorem bb_grow_any {b : Nat} {w : World} {F : Nat → Prop} {l : List UInt8} {v : Value} (hb : w.heap[b]? = some (.cells #[v, .int .i64 0, .int .i8 0] 131 (0, 0))) (hv : Row w v l) (hF : F b) {n : Nat} (hn : 1 ≤ n)
    (hroom : ∀ ao c, v = .slice ao l.length c → c - l.length < n) (hlim : l.length + n ≤ LIM) :
    Calls Tryz.prog 260 #[.pointer (some ⟨b, 0, none⟩), .int .i64 (n : Int)] w fun e w' => e = .returned (.int .i64 (l.length : Int)) ∧ ∃ g cap cur, BbOpen b w F l n w' g cap cur := by
  have hl : LIM = 1099511627776 := rfl
  have hgr : ∀ {w'}, BbGrown b w l n 0 w' → ∃ g cap cur, BbOpen b w F l n w' g cap cur := by
    rintro w' ⟨g, cap, cur, h1, h2, h3, h4, h5, h6, h7, h8⟩
    exact ⟨g, cap, cur, h1, h2, h3, h4, h5, h6, .inr h7, fun e => by have := heap_lt hb; omega, h8.mono fun k hk => by subst hk; exact hF⟩
  rcases hv.2 with ⟨rfl, h0⟩ | ⟨g, cap, cur, rfl, _, hg, hnc, hcm, hcs, htk⟩
  · obtain rfl := List.length_eq_zero_iff.1 h0
    by_cases h64 : n ≤ 64
    · refine (bb_grow_small b n 0 w hb hn h64).mono ?_
      rintro e w' ⟨rfl, h⟩
      exact ⟨rfl, hgr h⟩
    · refine (bb_grow_big b n 0 w hb (by omega) (by omega)).mono ?_
      rintro e w' ⟨rfl, h⟩
      exact ⟨rfl, hgr h⟩
  · refine (bb_grow_row b g cap n 0 cur l w hb hg hnc hcm (by simpa using hcs) (by simpa using htk) hn (hroom _ _ rfl) (by omega)).mono ?_
    rintro e w' ⟨rfl, h⟩
    exact ⟨rfl, hgr h⟩

/-- What Write leaves, from the open buffer. -/
theorem BbOpen.done {b : Nat} {w w2 w3 : World} {F : Nat → Prop} {l d : List UInt8} {g cap : Nat} {cur : Array Value} (h : BbOpen b w F l d.length w2 g cap cur) (hFb : F b) (he : w3 = w2.setRow g (laid cur l.length d)) :
    ∃ F', bbI b w3 F' (l ++ d) ∧ (∀ k, F' k → F k ∨ w.heap.size ≤ k) ∧ Upd F w w3 := by
  obtain ⟨h1, h2, h3, h4, h5, h6, h7, h8, h9⟩ := h
  subst he
  refine ⟨fun k => k = b ∨ some g = some k, ⟨_, 0, (setRow_other _ _ _ _ h8).trans h1, ?_, fun e => h8 (Option.some.inj e).symm, fun k => Iff.rfl⟩, ?_, h9.setRow h7 _⟩
  · refine ⟨by simp, .inr ⟨g, cap, _, by rw [List.length_append], Nat.zero_le _, setRow_heap _ _ _ _ _ _ h2, by rw [List.length_append]; exact h5, h4, by rw [laid_size (by omega)]; simpa using h3, ?_⟩⟩
    rw [Nat.mul_one]
    exact laid_take h6
  · rintro k (rfl | hk)
    · exact .inl hFb
    · obtain rfl := Option.some.inj hk
      exact h7

set_option maxHeartbeats 4000000 in
set_option maxRecDepth 100000 in
theorem bb_write {b : Nat} {w : World} {F : Nat → Prop} {l d : List UInt8} {x : Value} (h : bbI b w F l) (hx : SliceRd w F x d) (hlim : l.length + d.length ≤ LIM) :
    Calls Tryz.prog 256 #[.pointer (some ⟨b, 0, none⟩), x] w fun e w' => e = .returned (.tuple #[.int .i64 (d.length : Int), .nilIface]) ∧ ∃ F', bbI b w' F' (l ++ d) ∧ (∀ k, F' k → F k ∨ w.heap.size ≤ k) ∧ Upd F w w' := by
  obtain ⟨v, lr, hb, hv, hne, hF⟩ := h
  obtain ⟨ao, c, rfl⟩ : ∃ ao c, x = .slice ao d.length c := by
    rcases hx with ⟨rfl, rfl⟩ | ⟨a, c, rfl, _⟩
    · exact ⟨none, 0, rfl⟩
    · exact ⟨some a, c, rfl⟩
  have hLIM : LIM = 1099511627776 := rfl
  have hFb : F b := (hF b).2 (.inl rfl)
  have hu0 : Upd F w (w.setCell ⟨b, 2, none⟩ (.int .i8 0)) := (Upd.refl F w).setCell (p := ⟨b, 2, none⟩) (.inl hFb) _
  have hub : Upd (fun k => k = b) w (w.setCell ⟨b, 2, none⟩ (.int .i8 0)) := (Upd.refl (fun k => k = b) w).setCell (p := ⟨b, 2, none⟩) (.inl rfl) _
  have hb0 : (w.setCell ⟨b, 2, none⟩ (.int .i8 0)).heap[b]? = some (.cells #[v, .int .i64 0, .int .i8 0] 131 (0, 0)) := (heap_setCell_at _ hb).trans (by simp)
  have hv0 : Row (w.setCell ⟨b, 2, none⟩ (.int .i8 0)) v l := hv.stable hub fun k hk e => hne (by rw [hk, e])
  have c2 : w.cell? ⟨b, 2, none⟩ = some (.int .i8 lr) := cell_at hb 2
  have f2 : w.frozen? ⟨b, 2, none⟩ = false := frozen_at hb 2
  have c0 : (w.setCell ⟨b, 2, none⟩ (.int .i8 0)).cell? ⟨b, 0, none⟩ = some v := cell_at hb0 0
  have f0 : (w.setCell ⟨b, 2, none⟩ (.int .i8 0)).frozen? ⟨b, 0, none⟩ = false := frozen_at hb0 0
  have hsz0 : (w.setCell ⟨b, 2, none⟩ (.int .i8 0)).heap.size = w.heap.size := by simp
  obtain ⟨W, hW⟩ : ∃ W, W = w.setCell ⟨b, 2, none⟩ (.int .i8 0) := ⟨_, rfl⟩
  rw [← hW] at hb0 hv0 c0 f0 hu0 hub hsz0
  obtain ⟨vo, vc, hvf⟩ := hv.form
  have hle : l.length ≤ vc ∧ vc ≤ maxLen := by
    rcases hv.2 with ⟨h1, h0⟩ | ⟨g, cap, cur, h1, _, hg, hnc, hcm, hcs, htk⟩
    · rw [h1] at hvf; injection hvf with h2 h3 h4; subst h4; exact ⟨by omega, by unfold maxLen; omega⟩
    · rw [h1] at hvf; injection hvf with h2 h3 h4; subst h4; exact ⟨hnc, hcm⟩
  have HW := Lib.hid hW
  have HX := Lib.hid (hx.stable hub fun k hk => by subst hk; exact hFb)
  have HV0 := Lib.hid hv0
  have HB0 := Lib.hid hb0
  have HU0 := Lib.hid hu0
  have HF := Lib.hid hF
  clear hW hx hv0 hb0 hub hu0 hF hv hb hne
  by_cases hroom : d.length ≤ vc - l.length
  · have HT := Lib.hid (Tryz.Buffer_tryGrow_room b vo l.length vc d.length W (hvf ▸ c0) f0 hle.1 hle.2 hroom)
    rcases HV0.out.2 with ⟨hnil, h0⟩ | ⟨g, cap, cur, hrow, _, hg, hnc, hcm, hcs, htk⟩
    · obtain rfl := List.length_eq_zero_iff.1 h0
      obtain rfl : d = [] := by
        rw [hnil] at hvf
        injection hvf with _ _ h4
        subst h4
        exact List.length_eq_zero_iff.1 (by simpa using hroom)
      subst hnil
      injection hvf with h2 h3 h4
      subst h2
      subst h4
      have hb1 := heap_setCell_at (i := 0) (.slice none (([] : List UInt8).length + ([] : List UInt8).length) 0) HB0.out
      have d0 : (W.setCell ⟨b, 0, none⟩ (.slice none 0 0)).cell? ⟨b, 0, none⟩ = some (.slice none 0 0) := cell_at hb1 0
      have hcp := run_copy_none (P := Tryz.prog) (W.setCell ⟨b, 0, none⟩ (.slice none 0 0)) 31 31 3 5 none ao 0 0 0 c Tryz.underlying31 (by kernel_rfl) rfl
      have HB1 := Lib.hid hb1
      clear hb1 hle hroom hsz0 hlim c0 f0 h3 h0
      go_enter Tryz.func256, Tryz.ntmps256
      go_wp2_with (go_at_call 259; rw [← HW.out]; refine HT.out.mono ?_; rintro e w1 ⟨rfl, rfl⟩)
      go_ret2
      refine ⟨rfl, F, ⟨_, 0, HB1.out.trans (by simp), Row.nil _, by simp [Value.ownBlock], fun k => by simpa [Value.ownBlock] using HF.out k⟩, fun k hk => .inl hk, HU0.out.setCell (p := ⟨b, 0, none⟩) (.inl hFb) _⟩
    · subst hrow
      injection hvf with h2 h3 h4
      subst h2
      subst h4
      have hbg : b ≠ g := fun e => by
        subst e
        rw [HB0.out] at hg
        injection hg with h
        injection h with h5 h6
        exact absurd h6 (by decide)
      have hopen : BbOpen b w F l d.length (W.setCell ⟨b, 0, none⟩ (.slice (some ⟨g, 0, none⟩) (l.length + d.length) cap)) g cap cur :=
        ⟨(heap_setCell_at _ HB0.out).trans (by simp), (Below.heap_setCell _ _ _ _ (Ne.symm hbg)).trans hg, by simpa using hcs, hcm, by omega, by simpa using htk, .inl ((HF.out g).2 (.inr rfl)), hbg, HU0.out.setCell (p := ⟨b, 0, none⟩) (.inl hFb) _⟩
      have HO := Lib.hid hopen
      have hcp := fun (dp : Option Addr) (dCap : Nat) (hdp : d ≠ [] → dp = some ⟨g, l.length, none⟩) => run_copy_rd (P := Tryz.prog) (W.setCell ⟨b, 0, none⟩ (.slice (some ⟨g, 0, none⟩) (l.length + d.length) cap)) 31 31 3 5 Tryz.underlying31 (by kernel_rfl) (F := F) (v := .slice ao d.length c) (d := d)
        (HX.out.stable ((Upd.refl (fun k => k = b) W).setCell (p := ⟨b, 0, none⟩) (.inl rfl) _) fun k hk => by subst hk; exact hFb) (g := g) (off := l.length) (dCap := dCap) (dp := dp) hopen.2.1
        hdp (by have := hopen.2.2.1; omega)
      have d0 : (W.setCell ⟨b, 0, none⟩ (.slice (some ⟨g, 0, none⟩) (l.length + d.length) cap)).cell? ⟨b, 0, none⟩ = some (.slice (some ⟨g, 0, none⟩) (l.length + d.length) cap) := cell_at hopen.1 0
      clear hopen hg htk hcs
      by_cases hcl : cap = l.length
      · have hcp' := hcp (some ⟨g, 0, none⟩) 0 (fun hne => absurd (List.length_pos_iff.2 hne) (by omega))
        clear hcp
        subst hcl
        go_enter Tryz.func256, Tryz.ntmps256
        go_wp2_with (go_at_call 259; rw [← HW.out]; refine HT.out.mono ?_; rintro e w1 ⟨rfl, rfl⟩)
        go_ret2
        exact ⟨rfl, HO.out.done hFb rfl⟩
      · have hcp' := hcp (some ⟨g, l.length, none⟩) (cap - l.length) (fun _ => rfl)
        clear hcp
        go_enter Tryz.func256, Tryz.ntmps256
        go_wp2_with (go_at_call 259; rw [← HW.out]; refine HT.out.mono ?_; rintro e w1 ⟨rfl, rfl⟩)
        go_ret2
        exact ⟨rfl, HO.out.done hFb rfl⟩
  · have HT := Lib.hid (Tryz.Buffer_tryGrow_none b vo l.length vc d.length W (hvf ▸ c0) hle.1 hle.2 (by omega))
    obtain ⟨Q1, HQ1, HG⟩ := callsVar (bb_grow_any (F := F) (n := d.length) HB0.out HV0.out hFb (by omega) (fun ao' c' e => by rw [hvf] at e; injection e with _ _ h; subst h; omega) hlim)
    subst hvf
    go_enter Tryz.func256, Tryz.ntmps256
    go_wp2_with (first
      | (go_at_call 259; rw [← HW.out]; refine HT.out.mono ?_; rintro e w1 ⟨rfl, rfl⟩)
      | (go_at_call 260; refine HG.out.mono ?_))
    rintro e w2 hq
    obtain ⟨rfl, g, cap, cur, hopen⟩ := HQ1.out e w2 hq
    clear hq
    have hO : BbOpen b w F l d.length w2 g cap cur := by
      obtain ⟨h1, h2, h3, h4, h5, h6, h7, h8, h9⟩ := hopen
      exact ⟨h1, h2, h3, h4, h5, h6, h7.imp id (fun h => by omega), h8, HU0.out.trans h9⟩
    have HO := Lib.hid hO
    have hcl : ¬ cap = l.length := by have := hopen.2.2.2.2.1; omega
    have hlc : l.length + d.length ≤ cap := hopen.2.2.2.2.1
    have hcm : cap ≤ maxLen := hopen.2.2.2.1
    have hcp := run_copy_rd (P := Tryz.prog) w2 31 31 3 5 Tryz.underlying31 (by kernel_rfl) (F := F) (v := .slice ao d.length c) (d := d)
        (HX.out.stable hopen.2.2.2.2.2.2.2.2 fun _ h => h) (g := g) (off := l.length) (dCap := cap - l.length) (dp := some ⟨g, l.length, none⟩) hopen.2.1
        (fun _ => rfl) (by have := hopen.2.2.1; omega)
    have d0 : w2.cell? ⟨b, 0, none⟩ = some (.slice (some ⟨g, 0, none⟩) (l.length + d.length) cap) := cell_at hopen.1 0
    clear hopen hO
    go_wp2
    go_ret2
    exact ⟨rfl, HO.out.done hFb rfl⟩

theorem bb_law (b : Nat) : Sink.Law Tryz.prog 561 ⟨121, ⟨b, 0, none⟩, 256, fun _ => true, bbI b⟩ where
  meth := fun w => by kernel_rfl
  ahead := fun w => by kernel_rfl
  enters := fun args w => by kernel_rfl
  stable := by
    rintro w w' F G l ⟨v, lr, hb, hv, hne, hF⟩ hu hd
    exact ⟨v, lr, hu.heap hb (hd b ((hF b).2 (.inl rfl))), hv.stable hu fun k hk => hd k ((hF k).2 (.inr hk)), hne, hF⟩
  lt := by
    rintro w F l ⟨v, lr, hb, hv, hne, hF⟩ k hk
    rcases (hF k).1 hk with rfl | hk
    · exact heap_lt hb
    · exact (hv.lt k hk).2
  write := fun h hx _ hlim => bb_write h hx hlim

end Go.Proofs.YtmdkpihlhdjjaaaGreatFmt

namespace Go.Proofs.YtmdkpihlhdjjaaaGreatFmt
open Go.RowKit

abbrev bbS (b : Nat) : Sink := ⟨121, ⟨b, 0, none⟩, 256, fun _ => true, bbI b⟩

set_option maxHeartbeats 1000000 in
set_option maxRecDepth 100000 in
theorem bb_string {b : Nat} {w : World} {F : Nat → Prop} {l : List UInt8} (h : bbI b w F l) :
    Calls Tryz.prog 125 #[.pointer (some ⟨b, 0, none⟩)] w fun e w' => e = .returned (.string ⟨l.toArray⟩) ∧ Upd (fun _ => False) w w' := by
  obtain ⟨v, lr, hb, hv, hne, hF⟩ := h
  have c0 : w.cell? ⟨b, 0, none⟩ = some v := cell_at hb 0
  have c1 : w.cell? ⟨b, 1, none⟩ = some (.int .i64 0) := cell_at hb 1
  have hst : ∀ k, (convert 31 9 v).run Tryz.prog (w.drewN k) = .ok (.string ⟨l.toArray⟩) (w.drewN k) := fun k => str_of_row (hv.stable ((Upd.refl (fun _ => False) w).drewN k) fun _ _ h => h)
  obtain ⟨vo, vc, hvf⟩ := hv.form
  have hle : l.length ≤ vc := by
    rcases hv.2 with ⟨h1, h0⟩ | ⟨g, cap, cur, h1, _, hg, hnc, hcm, hcs, htk⟩
    · rw [h1] at hvf; injection hvf with h2 h3 h4; omega
    · rw [h1] at hvf; injection hvf with h2 h3 h4; subst h4; exact hnc
  subst hvf
  clear hb hv hne hF
  go_enter Tryz.func125, Tryz.ntmps125
  go_wp2
  go_quiet (fail)
  go_wp2
  go_ret
  exact ⟨rfl, (Upd.refl _ w).drewN _⟩
end Go.Proofs.YtmdkpihlhdjjaaaGreatFmt

namespace Go.Proofs.YtmdkpihlhdjjaaaGreatFmt
open Go.RowKit

set_option maxHeartbeats 4000000 in
set_option maxRecDepth 100000 in
theorem bb_writeString {b : Nat} {w : World} {F : Nat → Prop} {l : List UInt8} (t : ByteArray) (h : bbI b w F l) (hlim : l.length + t.size ≤ LIM) :
    Calls Tryz.prog 258 #[.pointer (some ⟨b, 0, none⟩), .string t] w fun e w' => e = .returned (.tuple #[.int .i64 (t.size : Int), .nilIface]) ∧ ∃ F', bbI b w' F' (l ++ t.data.toList) ∧ (∀ k, F' k → F k ∨ w.heap.size ≤ k) ∧ Upd F w w' := by
  obtain ⟨v, lr, hb, hv, hne, hF⟩ := h
  have hts : t.data.toList.length = t.size := rfl
  have hLIM : LIM = 1099511627776 := rfl
  have hFb : F b := (hF b).2 (.inl rfl)
  have hu0 : Upd F w (w.setCell ⟨b, 2, none⟩ (.int .i8 0)) := (Upd.refl F w).setCell (p := ⟨b, 2, none⟩) (.inl hFb) _
  have hub : Upd (fun k => k = b) w (w.setCell ⟨b, 2, none⟩ (.int .i8 0)) := (Upd.refl (fun k => k = b) w).setCell (p := ⟨b, 2, none⟩) (.inl rfl) _
  have hb0 : (w.setCell ⟨b, 2, none⟩ (.int .i8 0)).heap[b]? = some (.cells #[v, .int .i64 0, .int .i8 0] 131 (0, 0)) := (heap_setCell_at _ hb).trans (by simp)
  have hv0 : Row (w.setCell ⟨b, 2, none⟩ (.int .i8 0)) v l := hv.stable hub fun k hk e => hne (by rw [hk, e])
  have c2 : w.cell? ⟨b, 2, none⟩ = some (.int .i8 lr) := cell_at hb 2
  have f2 : w.frozen? ⟨b, 2, none⟩ = false := frozen_at hb 2
  have c0 : (w.setCell ⟨b, 2, none⟩ (.int .i8 0)).cell? ⟨b, 0, none⟩ = some v := cell_at hb0 0
  have f0 : (w.setCell ⟨b, 2, none⟩ (.int .i8 0)).frozen? ⟨b, 0, none⟩ = false := frozen_at hb0 0
  have hsz0 : (w.setCell ⟨b, 2, none⟩ (.int .i8 0)).heap.size = w.heap.size := by simp
  obtain ⟨W, hW⟩ : ∃ W, W = w.setCell ⟨b, 2, none⟩ (.int .i8 0) := ⟨_, rfl⟩
  rw [← hW] at hb0 hv0 c0 f0 hu0 hub hsz0
  obtain ⟨vo, vc, hvf⟩ := hv.form
  have hle : l.length ≤ vc ∧ vc ≤ maxLen := by
    rcases hv.2 with ⟨h1, h0⟩ | ⟨g, cap, cur, h1, _, hg, hnc, hcm, hcs, htk⟩
    · rw [h1] at hvf; injection hvf with h2 h3 h4; subst h4; exact ⟨by omega, by unfold maxLen; omega⟩
    · rw [h1] at hvf; injection hvf with h2 h3 h4; subst h4; exact ⟨hnc, hcm⟩
  have HW := Lib.hid hW
  have HTs := Lib.hid hts; clear hts
  have HV0 := Lib.hid hv0
  have HB0 := Lib.hid hb0
  have HU0 := Lib.hid hu0
  have HF := Lib.hid hF
  clear hW hv0 hb0 hub hu0 hF hv hb hne
  by_cases hroom : t.size ≤ vc - l.length
  · have HT := Lib.hid (Tryz.Buffer_tryGrow_room b vo l.length vc t.size W (hvf ▸ c0) f0 hle.1 hle.2 hroom)
    rcases HV0.out.2 with ⟨hnil, h0⟩ | ⟨g, cap, cur, hrow, _, hg, hnc, hcm, hcs, htk⟩
    · obtain rfl := List.length_eq_zero_iff.1 h0
      obtain rfl : t = ⟨#[]⟩ := by
        rw [hnil] at hvf
        injection hvf with _ _ h4
        subst h4
        have h0 : t.size = 0 := by simpa using hroom
        exact ByteArray.ext (Array.eq_empty_of_size_eq_zero h0)
      subst hnil
      injection hvf with h2 h3 h4
      subst h2
      subst h4
      have hb1 := heap_setCell_at (i := 0) (.slice none (([] : List UInt8).length + (⟨#[]⟩ : ByteArray).size) 0) HB0.out
      have d0 : (W.setCell ⟨b, 0, none⟩ (.slice none 0 0)).cell? ⟨b, 0, none⟩ = some (.slice none 0 0) := cell_at hb1 0
      have hcp : (Builtin.copy_ #[31, 9] 3 #[.slice none 0 0, .string ⟨#[]⟩]).run Tryz.prog (W.setCell ⟨b, 0, none⟩ (.slice none 0 0)) = .ok (.int .i64 0) (W.setCell ⟨b, 0, none⟩ (.slice none 0 0)) := by
        obtain ⟨i, hi⟩ : ∃ i, Tryz.prog.info? 5 = some i := ⟨_, rfl⟩
        simp [Builtin.copy_, run_underlying Tryz.underlying31, Builtin.lenOf, Builtin.firstCells, sizeOf, typeInfo, hi]
        rfl
      have HB1 := Lib.hid hb1
      clear hb1 hle hroom hsz0 hlim c0 f0 h3 h0
      go_enter Tryz.func258, Tryz.ntmps258
      go_wp2_with (go_at_call 259; rw [← HW.out]; refine HT.out.mono ?_; rintro e w1 ⟨rfl, rfl⟩)
      go_ret2
      refine ⟨rfl, F, ⟨_, 0, HB1.out.trans (by first | (simp; done) | (simp; rfl)), Row.nil _, by simp [Value.ownBlock], fun k => by simpa [Value.ownBlock] using HF.out k⟩, fun k hk => .inl hk, HU0.out.setCell (p := ⟨b, 0, none⟩) (.inl hFb) _⟩
    · subst hrow
      injection hvf with h2 h3 h4
      subst h2
      subst h4
      have hbg : b ≠ g := fun e => by
        subst e
        rw [HB0.out] at hg
        injection hg with h
        injection h with h5 h6
        exact absurd h6 (by decide)
      have hopen : BbOpen b w F l t.data.toList.length (W.setCell ⟨b, 0, none⟩ (.slice (some ⟨g, 0, none⟩) (l.length + t.size) cap)) g cap cur :=
        ⟨(heap_setCell_at _ HB0.out).trans (by simp), (Below.heap_setCell _ _ _ _ (Ne.symm hbg)).trans hg, by simpa using hcs, hcm, by rw [HTs.out]; have := hle.1; omega, by simpa using htk, .inl ((HF.out g).2 (.inr rfl)), hbg, HU0.out.setCell (p := ⟨b, 0, none⟩) (.inl hFb) _⟩
      have HO := Lib.hid hopen
      have hcp := fun (dp : Option Addr) (dCap : Nat) (hdp : 0 < t.size → 0 < t.size → dp = some ⟨g, l.length, none⟩) => by
        have h := run_copy_str (P := Tryz.prog) (W.setCell ⟨b, 0, none⟩ (.slice (some ⟨g, 0, none⟩) (l.length + t.size) cap)) 31 9 3 5 Tryz.underlying31 (by kernel_rfl) (s := t) (g := g) (off := l.length) (dLen := t.size) (dCap := dCap) (dp := dp) hopen.2.1
          hdp (by rw [Nat.min_self]; have := hopen.2.2.1; omega)
        rw [Nat.min_self, List.take_of_length_le (Nat.le_of_eq HTs.out)] at h
        exact h
      have d0 : (W.setCell ⟨b, 0, none⟩ (.slice (some ⟨g, 0, none⟩) (l.length + t.size) cap)).cell? ⟨b, 0, none⟩ = some (.slice (some ⟨g, 0, none⟩) (l.length + t.size) cap) := cell_at hopen.1 0
      clear hopen hg htk hcs
      by_cases hcl : cap = l.length
      · have hcp' := hcp (some ⟨g, 0, none⟩) 0 (fun _ _ => by omega)
        clear hcp
        subst hcl
        go_enter Tryz.func258, Tryz.ntmps258
        go_wp2_with (go_at_call 259; rw [← HW.out]; refine HT.out.mono ?_; rintro e w1 ⟨rfl, rfl⟩)
        go_ret2
        exact ⟨rfl, HO.out.done hFb rfl⟩
      · have hcp' := hcp (some ⟨g, l.length, none⟩) (cap - l.length) (fun _ _ => rfl)
        clear hcp
        go_enter Tryz.func258, Tryz.ntmps258
        go_wp2_with (go_at_call 259; rw [← HW.out]; refine HT.out.mono ?_; rintro e w1 ⟨rfl, rfl⟩)
        go_ret2
        exact ⟨rfl, HO.out.done hFb rfl⟩
  · have HT := Lib.hid (Tryz.Buffer_tryGrow_none b vo l.length vc t.size W (hvf ▸ c0) hle.1 hle.2 (by omega))
    obtain ⟨Q1, HQ1, HG⟩ := callsVar (bb_grow_any (F := F) (n := t.size) HB0.out HV0.out hFb (by omega) (fun ao' c' e => by rw [hvf] at e; injection e with _ _ h; subst h; omega) hlim)
    subst hvf
    go_enter Tryz.func258, Tryz.ntmps258
    go_wp2_with (first
      | (go_at_call 259; rw [← HW.out]; refine HT.out.mono ?_; rintro e w1 ⟨rfl, rfl⟩)
      | (go_at_call 260; refine HG.out.mono ?_))
    rintro e w2 hq
    obtain ⟨rfl, g, cap, cur, hopen⟩ := HQ1.out e w2 hq
    clear hq
    have hO : BbOpen b w F l t.data.toList.length w2 g cap cur := by
      obtain ⟨h1, h2, h3, h4, h5, h6, h7, h8, h9⟩ := hopen
      exact ⟨h1, h2, h3, h4, h5, h6, h7.imp id (fun h => by omega), h8, HU0.out.trans h9⟩
    have HO := Lib.hid hO
    have hcl : ¬ cap = l.length := by have := hopen.2.2.2.2.1; omega
    have hlc : l.length + t.size ≤ cap := hopen.2.2.2.2.1
    have hcm : cap ≤ maxLen := hopen.2.2.2.1
    have hcp : (Builtin.copy_ #[31, 9] 3 #[.slice (some ⟨g, l.length, none⟩) t.size (cap - l.length), .string t]).run Tryz.prog w2 = .ok (.int .i64 (t.size : Int)) (w2.setRow g (laid cur l.length t.data.toList)) := by
      have h := run_copy_str (P := Tryz.prog) w2 31 9 3 5 Tryz.underlying31 (by kernel_rfl) (s := t) (g := g) (off := l.length) (dLen := t.size) (dCap := cap - l.length) (dp := some ⟨g, l.length, none⟩) hopen.2.1
        (fun _ _ => rfl) (by rw [Nat.min_self]; have := hopen.2.2.1; omega)
      rw [Nat.min_self, List.take_of_length_le (Nat.le_of_eq HTs.out)] at h
      exact h
    have d0 : w2.cell? ⟨b, 0, none⟩ = some (.slice (some ⟨g, 0, none⟩) (l.length + t.size) cap) := cell_at hopen.1 0
    clear hopen hO
    go_wp2
    go_ret2
    exact ⟨rfl, HO.out.done hFb rfl⟩

end Go.Proofs.YtmdkpihlhdjjaaaGreatFmt
