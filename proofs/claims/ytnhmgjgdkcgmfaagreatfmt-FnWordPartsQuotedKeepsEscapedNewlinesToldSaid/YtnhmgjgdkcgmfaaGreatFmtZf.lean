/-
  n010_150: the literals printed alone, joined.
-/
import Derived.Test.YtnhmgjgdkcgmfaaGreatFmtZd
namespace Go.Proofs.YtnhmgjgdkcgmfaaGreatFmt
open Go.RowKit

def litsText (vals : List ByteArray) : List UInt8 := vals.flatMap fun s => litText s.data.toList
theorem litsText_take (vals : List ByteArray) (j : Nat) (hj : j < vals.length) : litsText (vals.take (j + 1)) = litsText (vals.take j) ++ litText vals[j].data.toList := by
  unfold litsText
  rw [List.take_succ_eq_append_getElem hj, List.flatMap_append, List.flatMap_cons, List.flatMap_nil, List.append_nil]
theorem size_le_sum {vals : List ByteArray} {s : ByteArray} (h : s ∈ vals) : s.size ≤ (vals.map ByteArray.size).sum := by
  induction vals with
  | nil => cases h
  | cons a r ih =>
    rw [List.map_cons, List.sum_cons]
    rcases List.mem_cons.1 h with rfl | h
    · omega
    · have := ih h; omega
theorem litsText_len (vals : List ByteArray) : (litsText vals).length ≤ (vals.map ByteArray.size).sum + vals.length := by
  induction vals with
  | nil => simp [litsText]
  | cons s r ih =>
    have := litText_len s
    simp only [litsText, List.flatMap_cons, List.length_append, List.map_cons, List.sum_cons, List.length_cons] at ih ⊢
    omega

set_option maxRecDepth 100000 in
set_option maxHeartbeats 4000000 in
theorem z_concat {w : World} {vv lv : Value} {vals : List ByteArray} {lines : List Nat} (hv : StrsRd w vv vals) (hL : UintsRd w lv lines) (hlen : lines.length = vals.length) (hl : vals.length ≤ 1048576) (hs : ∀ s ∈ vals, TwText s) (hz : (vals.map ByteArray.size).sum ≤ 1048576) :
    Calls Tryz.prog 13 #[vv, lv] w fun e w' => ∃ v, e = .returned (.tuple #[v, .bool true]) ∧ Row w' v (litsText vals) ∧ (∀ k, v.ownBlock = some k → w.heap.size ≤ k) ∧ Upd (fun _ => False) w w' := by
  obtain ⟨n, hn⟩ : ∃ n, n = vals.length := ⟨_, rfl⟩
  obtain ⟨cur, hcs, hmk0⟩ := run_make_bytes w 64 (by omega)
  have hmk := hmk0
  rw [show ((64 : Nat) : Int) = 64 from rfl] at hmk
  clear hmk0
  have hrow : RowB w.heap.size (w.alloc (.cells cur 5)) (.slice (some ⟨w.heap.size, 0, none⟩) 0 64) [] := RowB.made hcs (by decide)
  have hu1 : Upd (fun _ => False) w (w.alloc (.cells cur 5)) := (Upd.refl _ w).alloc _
  have HR := Lib.hid (And.intro hrow hu1)
  have hsz : ∀ s ∈ vals, s.size ≤ 1048576 := fun s hs => by
    have : s.size ≤ (vals.map ByteArray.size).sum := size_le_sum hs
    omega
  clear hrow hu1 hcs
  by_cases h0 : n = 0
  · have hv0 : vals = [] := List.length_eq_zero_iff.1 (by omega)
    have hl0 : lines = [] := List.length_eq_zero_iff.1 (by omega)
    subst hv0 hl0 h0
    obtain ⟨va, vc, rfl⟩ := hv.form0
    obtain ⟨la, lc, rfl⟩ := hL.form0
    clear hv hL hlen hl hn hs hz hsz
    go_enter Tryz.func13, Tryz.ntmps13
    go_wp2_with fail
    go_loopg [6, 7] 0 (fun _ v6 v7 wr => v6 = .slice (some ⟨w.heap.size, 0, none⟩) 0 64 ∧ v7 = .int .i64 0 ∧ w.alloc (.cells cur 5) = wr)
    case atStart => exact ⟨rfl, rfl, rfl⟩
    case round =>
      obtain ⟨rfl, rfl, rfl⟩ := hrel
      go_wp2_with fail
      go_ret2
      exact ⟨_, rfl, HR.out.1.row, fun k hk => (HR.out.1.1.lt k hk).1, HR.out.2⟩
  · rcases hv with ⟨_, hv0⟩ | ⟨a, c, rfl, hlc, hrd⟩
    · rw [hv0] at hn; exact absurd hn h0
    rcases hL with ⟨_, hl0⟩ | ⟨a2, c2, rfl, hlc2, hrd2⟩
    · rw [hl0] at hlen; simp at hlen; omega
    rw [hlen, ← hn]
    have hnI : (n : Int) ≤ 1048576 := by omega
    have HC := Lib.hid (And.intro hrd (And.intro hrd2 (And.intro hn (And.intro hlen (And.intro hs (And.intro hsz (And.intro hz hl)))))))
    clear hrd hrd2 hlc hlc2 hlen hl hn h0 hs hz hsz
    go_enter Tryz.func13, Tryz.ntmps13
    go_wp2_with fail
    go_loopg [6, 7] n (fun k v6 v7 wr => ∃ (j : Nat), v7 = .int .i64 (j : Int) ∧ j + k = n ∧ RowB w.heap.size wr v6 (litsText (vals.take j)) ∧ Upd (fun k => w.heap.size ≤ k) w wr)
    case atStart => exact ⟨0, rfl, by omega, HR.out.1, HR.out.2.mono fun _ h => h.elim⟩
    case round =>
      obtain ⟨j, rfl, hjk, hrow, hu⟩ := hrel
      have HJ := Lib.hid (And.intro hjk (And.intro hrow hu))
      have hus := hu.strict (G := fun _ => False) fun k hk => hk
      clear hjk hrow
      by_cases hlt : j < n
      · have hltI : (j : Int) < (n : Int) := by omega
        have hj1 : j < vals.length := by have := HC.out.2.2.1; omega
        have hj2 : j < lines.length := by have := HC.out.2.2.2.1; omega
        obtain ⟨s, hs⟩ : ∃ s, vals[j]'hj1 = s := ⟨_, rfl⟩
        obtain ⟨x, hx⟩ : ∃ x, lines[j]'hj2 = x := ⟨_, rfl⟩
        have c1 : wr.cell? (a.add j) = some (.string s) := hus.cell (HC.out.1 j s (by rw [List.getElem?_eq_getElem hj1, hs])) fun h => h
        have c2 : wr.cell? (a2.add j) = some (.int .u64 (x : Int)) := hus.cell (HC.out.2.1 j x (by rw [List.getElem?_eq_getElem hj2, hx])) fun h => h
        have hsm : s ∈ vals := hs ▸ List.getElem_mem hj1
        have HS := Lib.hid hs
        have HPL := Lib.hid (z_printLit s x false (HC.out.2.2.2.2.1 s hsm) (HC.out.2.2.2.2.2.1 s hsm) wr.drew)
        have hlen : (litsText (vals.take j)).length + (⟨(litText s.data.toList).toArray⟩ : ByteArray).size ≤ LIM := by
          have h1 := litsText_len (vals.take (j + 1))
          rw [litsText_take vals j hj1, hs, List.length_append] at h1
          have h2 := sum_take_le vals (j + 1)
          have h3 := HC.out.2.2.2.2.2.2
          have h4 : (⟨(litText s.data.toList).toArray⟩ : ByteArray).size = (litText s.data.toList).length := rfl
          have h5 : (vals.take (j + 1)).length ≤ vals.length := by rw [List.length_take]; omega
          unfold LIM
          omega
        have HLen := Lib.hid hlen
        clear hs hx hus hu hsm hlen
        go_wp2_with fail
        go_region_held3 (fun w' => w'.cell? (a.add j) = some (.string s) ∧ w'.cell? (a2.add j) = some (.int .u64 (x : Int))) (first | exact ⟨c1, c2⟩ | exact ⟨k1, k2⟩ | simp [go_sem, *])
          (first | (go_at_call 20; refine HPL.out.mono ?_; rintro e w1 ⟨rfl, hu1⟩
                    have k1 := hu1.cell c1 fun h => h
                    have k2 := hu1.cell c2 fun h => h
                    have HU1 := Lib.hid hu1; clear hu1))
        obtain ⟨v', w2, hr, hrow2, hu2⟩ := ((HJ.out.2.1.quiet ((Upd.refl (fun _ => False) wr).drew.trans HU1.out))).str ⟨(litText s.data.toList).toArray⟩ HLen.out
        have HApp := Lib.hid hr
        have HRow2 := Lib.hid (And.intro hrow2 hu2)
        clear hr hrow2 hu2
        go_wp2_with (at_builtin; refine wpList_append_run rfl _ _ _ rfl rfl rfl HApp.out ?_)
        go_roundg (n - (j + 1))
        case measure => have := HJ.out.1; omega
        case rel =>
          refine ⟨j + 1, by go_num, by have := HJ.out.1; omega, ?_, ?_⟩
          · rw [litsText_take vals j hj1, HS.out]
            exact HRow2.out.1
          · exact ((HJ.out.2.2.trans (((Upd.refl (fun _ => False) wr).drew.trans HU1.out).mono fun _ h => h.elim)).trans HRow2.out.2)
      · obtain rfl : j = n := by have := HJ.out.1; omega
        clear hus hu
        go_wp2_with fail
        go_ret2
        refine ⟨_, rfl, ?_, fun k hk => (HJ.out.2.1.1.lt k hk).1, HJ.out.2.2.strict fun k hk => hk⟩
        have := HJ.out.2.1.row
        rw [HC.out.2.2.1, List.take_length] at this
        exact this
theorem twTexts_of {L : List ByteArray} {nl : Bool} (h : (L.all fun s => s.data.toList.all (plB nl)) = true) : ∀ s ∈ L, TwText s := fun s hs x hx => plB_tw (List.all_eq_true.1 (List.all_eq_true.1 h s hs) x hx)
theorem sizes_le {L : List ByteArray} {M : Nat} (h : (L.map ByteArray.size).sum ≤ M) : ∀ s ∈ L, s.size ≤ M := fun s hs => by
  have : s.size ≤ (L.map ByteArray.size).sum := size_le_sum hs
  omega
theorem StrsRd.form {w : World} {v : Value} {L : List ByteArray} (h : StrsRd w v L) : ∃ a c, v = .slice a L.length c := by
  rcases h with ⟨rfl, rfl⟩ | ⟨a, c, rfl, _⟩
  · exact ⟨_, _, rfl⟩
  · exact ⟨_, _, rfl⟩
theorem UintsRd.form {w : World} {v : Value} {L : List Nat} (h : UintsRd w v L) : ∃ a c, v = .slice a L.length c := by
  rcases h with ⟨rfl, rfl⟩ | ⟨a, c, rfl, _⟩
  · exact ⟨_, _, rfl⟩
  · exact ⟨_, _, rfl⟩

end Go.Proofs.YtnhmgjgdkcgmfaaGreatFmt
