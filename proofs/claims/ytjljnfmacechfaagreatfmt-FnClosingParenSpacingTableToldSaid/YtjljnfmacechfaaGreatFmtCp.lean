/-
  n010_157's own helpers over rows of bytes: zzRep, zzIndent, zzBreak .
-/
import Derived.Test.YtjljnfmacechfaaGreatFmtRb
import Derived.Test.YtjljnfmacechfaaGreatFmtCq
namespace Go.Proofs.YtjljnfmacechfaaGreatFmt
open Go.RowKit
variable {B : Nat} {w : World} {v : Value} {l : List UInt8}

set_option maxRecDepth 100000 in
set_option maxHeartbeats 4000000 in
theorem p_rep (h : RowB B w v l) (c : UInt8) (n : Nat) (hl : l.length + n ≤ 1073741824) :
    Calls Tryz.prog 28 #[v, .int .u8 (c.toNat : Int), .int .u64 (n : Int)] w fun e w' => ∃ v', e = .returned v' ∧ RowB B w' v' (l ++ List.replicate n c) ∧ Upd (fun k => B ≤ k) w w' := by
  have hnI : (n : Int) ≤ 1073741824 := by omega
  have HL := Lib.hid hl
  have H0 := Lib.hid h
  clear hl h
  go_enter Tryz.func28, Tryz.ntmps28
  go_wp2_with fail
  go_loopg [0, 7] n (fun k vb vi wr => ∃ j : Nat, vi = .int .u64 (j : Int) ∧ j + k = n ∧ RowB B wr vb (l ++ List.replicate j c) ∧ Upd (fun k => B ≤ k) w wr)
  case atStart => exact ⟨0, rfl, by omega, by simpa using H0.out, Upd.refl _ _⟩
  case round =>
    obtain ⟨j, rfl, hjk, hrow, hu⟩ := hrel
    have HJ := Lib.hid hjk
    clear hjk
    by_cases hlt : j < n
    · have hltI : (j : Int) < (n : Int) := by omega
      obtain ⟨v4, w4, hr4, hrow4, hu4⟩ := hrow.pushAt c (x := (c.toNat : Int)) rfl (by rw [List.length_append, List.length_replicate]; have := HL.out; unfold LIM; omega) (n := wr.heap.size) rfl
      have HR4 := Lib.hid hr4
      have HW4 := Lib.hid (And.intro hrow4 (hu.trans hu4))
      clear hr4 hrow4 hu4 hrow hu
      go_wp2_with (at_builtin; refine wpList_append_run rfl _ _ _ rfl rfl rfl HR4.out ?_; clear HR4)
      go_roundg (n - (j + 1))
      case measure => have := HJ.out; omega
      case rel =>
        refine ⟨j + 1, by go_num, by have := HJ.out; omega, ?_, HW4.out.2⟩
        rw [List.replicate_succ', ← List.append_assoc]
        exact HW4.out.1
    · obtain rfl : j = n := by have := HJ.out; omega
      have hltI : ¬ (j : Int) < (j : Int) := by omega
      have HW := Lib.hid (And.intro hrow hu)
      clear hrow hu
      go_wp2_with fail
      go_ret
      exact ⟨_, rfl, HW.out.1, HW.out.2⟩


set_option maxRecDepth 100000 in
set_option maxHeartbeats 4000000 in
theorem p_indent (h : RowB B w v l) (mi : Bool) (k lv : Nat) (hkl : k * lv ≤ 65536) (hlv : lv ≤ 65536) (hl : l.length ≤ 1048576) :
    Calls Tryz.prog 24 #[v, .bool mi, .int .u64 (k : Int), .int .u64 (lv : Int)] w fun e w' => ∃ v', e = .returned v' ∧ RowB B w' v' (l ++ pIndent mi k lv) ∧ Upd (fun k => B ≤ k) w w' := by
  have H0 := Lib.hid (And.intro h (And.intro hkl (And.intro hlv hl)))
  clear h hkl hlv hl
  cases mi
  · by_cases h0 : lv = 0
    · subst h0
      go_enter Tryz.func24, Tryz.ntmps24
      go_wp2_with fail
      go_ret
      exact ⟨_, rfl, by simpa [pIndent] using H0.out.1, Upd.refl _ _⟩
    · have h0I : ((lv : Int) == 0) = false := by rw [beq_eq_false_iff_ne]; omega
      have HN := Lib.hid h0
      clear h0
      by_cases hk : k = 0
      · subst hk
        obtain ⟨v4, w4, hr4, hrow4, hu4⟩ := H0.out.1.pushAt 255 (x := 255) rfl (by have := H0.out.2.2.2; unfold LIM; omega) (n := w.heap.size) rfl
        have hc := p_rep hrow4 9 lv (by rw [List.length_append, List.length_singleton]; have := H0.out.2.2.2; have := H0.out.2.2.1; omega)
        have HR4 := Lib.hid hr4
        have HC := Lib.hid hc
        have HU4 := Lib.hid hu4
        clear hr4 hrow4 hu4 hc
        go_enter Tryz.func24, Tryz.ntmps24
        go_wp2_with (first
          | (at_builtin; refine wpList_append_run rfl _ _ _ rfl rfl rfl HR4.out ?_; clear HR4)
          | (go_at_call 28; refine HC.out.mono ?_; rintro e w5 ⟨v5, rfl, h5, hu5⟩
             obtain ⟨v6, w6, hr6, hrow6, hu6⟩ := h5.pushAt 255 (x := 255) rfl (by rw [List.length_append, List.length_append, List.length_singleton, List.length_replicate]; have := H0.out.2.2.2; have := H0.out.2.2.1; unfold LIM; omega) (n := w5.heap.size) rfl
             have HR6 := Lib.hid hr6
             have HW6 := Lib.hid (And.intro hrow6 ((HU4.out.trans hu5).trans hu6))
             clear hr6 hrow6 hu6 h5 hu5 HC)
          | (at_builtin; refine wpList_append_run rfl _ _ _ rfl rfl rfl HR6.out ?_; clear HR6))
        go_ret
        refine ⟨_, rfl, ?_, HW6.out.2⟩
        have e1 : l ++ pIndent false 0 lv = l ++ [255] ++ List.replicate lv 9 ++ [255] := by
          unfold pIndent
          rw [decide_eq_false HN.out]
          simp
        rw [e1]
        exact HW6.out.1
      · have hkI : ((k : Int) == 0) = false := by rw [beq_eq_false_iff_ne]; omega
        have HK := Lib.hid hk
        clear hk
        obtain ⟨n, hn⟩ : ∃ n, n = k * lv := ⟨_, rfl⟩
        have hmul : IntKind.u64.wrap ((k : Int) * (lv : Int)) = (n : Int) := by
          have h0 := H0.out.2.1
          have h1 : (k : Int) * (lv : Int) ≤ 65536 := by rw [← Int.natCast_mul]; omega
          have h2 : 0 ≤ (k : Int) * (lv : Int) := by rw [← Int.natCast_mul]; omega
          rw [hn, IntKind.wrap_u64, Int.natCast_mul]
          omega
        have hc := p_rep H0.out.1 32 n (by have := H0.out.2.2.2; have := H0.out.2.1; omega)
        have HN2 := Lib.hid hn
        clear hn
        have HC := Lib.hid hc
        clear hc
        go_enter Tryz.func24, Tryz.ntmps24
        go_wp2_with (go_at_call 28; refine HC.out.mono ?_; rintro e w5 ⟨v5, rfl, h5, hu5⟩
                     have HW5 := Lib.hid (And.intro h5 hu5)
                     clear h5 hu5 HC)
        go_ret
        refine ⟨_, rfl, ?_, HW5.out.2⟩
        have e1 : l ++ pIndent false k lv = l ++ List.replicate (k * lv) 32 := by
          unfold pIndent
          rw [decide_eq_false HN.out]
          simp [HK.out]
        rw [e1, ← HN2.out]
        exact HW5.out.1
  · go_enter Tryz.func24, Tryz.ntmps24
    go_wp2_with fail
    go_ret
    exact ⟨_, rfl, by simpa [pIndent] using H0.out.1, Upd.refl _ _⟩

set_option maxRecDepth 100000 in
set_option maxHeartbeats 4000000 in
/-- zzBreak with minify off, as zzParenModel calls it. -/
theorem p_break (h : RowB B w v l) (k lv n L : Nat) (hkl : k * lv ≤ 65536) (hlv : lv ≤ 65536) (hn : n ≤ 2147483648) (hl : l.length ≤ 1000) :
    Calls Tryz.prog 15 #[v, .bool false, .int .u64 (k : Int), .int .u64 (lv : Int), .int .u64 (n : Int), .int .u64 (L : Int)] w fun e w' => ∃ v', e = .returned v' ∧ RowB B w' v' (l ++ pBreak false k lv n L) ∧ Upd (fun k => B ≤ k) w w' := by
  obtain ⟨v4, w4, hr4, hrow4, hu4⟩ := h.pushAt 10 (x := 10) rfl (by unfold LIM; omega) (n := w.heap.size) rfl
  have HR4 := Lib.hid hr4
  by_cases hg : n + 1 < L
  · have hgI : (n : Int) + 1 < (L : Int) := by omega
    obtain ⟨v5, w5, hr5, hrow5, hu5⟩ := hrow4.pushAt 10 (x := 10) rfl (by rw [List.length_append, List.length_singleton]; unfold LIM; omega) (n := w4.heap.size) rfl
    have HR5 := Lib.hid hr5
    have HC := Lib.hid (p_indent hrow5 false k lv hkl hlv (by simp only [List.length_append, List.length_singleton]; omega))
    have HU := Lib.hid (hu4.trans hu5)
    have HG := Lib.hid hg
    clear hr4 hrow4 hu4 hr5 hrow5 hu5 h hg
    go_enter Tryz.func15, Tryz.ntmps15
    go_wp2_with (first
      | (at_builtin; refine wpList_append_run rfl _ _ _ rfl rfl rfl HR4.out ?_; clear HR4)
      | (at_builtin; refine wpList_append_run rfl _ _ _ rfl rfl rfl HR5.out ?_; clear HR5)
      | (go_at_call 24; refine HC.out.mono ?_; rintro e w6 ⟨v6, rfl, h6, hu6⟩; have H6 := Lib.hid (And.intro h6 (HU.out.trans hu6)); clear h6 hu6 HC))
    go_ret
    refine ⟨_, rfl, ?_, H6.out.2⟩
    have e1 : l ++ pBreak false k lv n L = l ++ [10] ++ [10] ++ pIndent false k lv := by
      unfold pBreak
      rw [decide_eq_true HG.out]
      simp
    rw [e1]
    exact H6.out.1
  · have hgI : (L : Int) ≤ (n : Int) + 1 := by omega
    have HC := Lib.hid (p_indent hrow4 false k lv hkl hlv (by simp only [List.length_append, List.length_singleton]; omega))
    have HU := Lib.hid hu4
    have HG := Lib.hid hg
    clear hr4 hrow4 hu4 h hg
    go_enter Tryz.func15, Tryz.ntmps15
    go_wp2_with (first
      | (at_builtin; refine wpList_append_run rfl _ _ _ rfl rfl rfl HR4.out ?_; clear HR4)
      | (go_at_call 24; refine HC.out.mono ?_; rintro e w6 ⟨v6, rfl, h6, hu6⟩; have H6 := Lib.hid (And.intro h6 (HU.out.trans hu6)); clear h6 hu6 HC))
    go_ret
    refine ⟨_, rfl, ?_, H6.out.2⟩
    have e1 : l ++ pBreak false k lv n L = l ++ [10] ++ pIndent false k lv := by
      unfold pBreak
      rw [decide_eq_false HG.out]
      simp
    rw [e1]
    exact H6.out.1

set_option maxRecDepth 100000 in
theorem p_max (a c : Nat) (w : World) : Calls Tryz.prog 16 #[.int .u64 (a : Int), .int .u64 (c : Int)] w fun e w' => e = .returned (.int .u64 ((max a c : Nat) : Int)) ∧ w = w' := by
  by_cases h : c < a
  · have hI : (c : Int) < (a : Int) := by omega
    have e : max a c = a := by omega
    rw [e]
    clear h e
    go_enter Tryz.func16, Tryz.ntmps16
    go_wp2
    go_ret
    exact ⟨rfl, rfl⟩
  · have hI : (a : Int) ≤ (c : Int) := by omega
    have e : max a c = c := by omega
    rw [e]
    clear h e
    go_enter Tryz.func16, Tryz.ntmps16
    go_wp2
    go_ret
    exact ⟨rfl, rfl⟩

set_option maxRecDepth 100000 in
set_option maxHeartbeats 8000000 in
theorem p_paren_break (si mn : Bool) (k lv n L : Nat) (hkl : k * lv ≤ 65536) (hlv : lv ≤ 65536) (hn : n ≤ 2147483648) (w : World) (hbr : mn = true ∨ (si = false ∧ n < L)) :
    Calls Tryz.prog 9 #[.bool false, .bool si, .bool false, .bool mn, .int .u64 (k : Int), .int .u64 (lv : Int), .int .u64 (n : Int), .int .u64 (L : Int)] w fun e w' =>
      e = .returned (.tuple #[.string ⟨(pBreak false k lv n L ++ [41]).toArray⟩, .int .u64 ((max n L : Nat) : Int), .bool false, .bool false]) ∧ Upd (fun _ => False) w w' := by
  obtain ⟨u, hu⟩ : ∃ u : List UInt8, u = pBreak false k lv n L ++ [41] := ⟨_, rfl⟩
  obtain ⟨M, hM⟩ : ∃ M : Nat, M = max n L := ⟨_, rfl⟩
  rw [← hu, ← hM]
  have hC := p_break (RowB.nil w) k lv n L hkl hlv hn (by simp)
  have hm := fun W => p_max n L W
  rw [← hM] at hm
  have HC := Lib.hid hC
  have HM := Lib.hid hm
  have HU := Lib.hid hu
  have HLn := Lib.hid (pBreak_len k lv n L hkl hlv)
  clear hC hu hM hm
  have hbr2 : mn = true ∨ (mn = false ∧ si = false ∧ (n : Int) < (L : Int)) := by
    cases mn
    · rcases hbr with h | ⟨h1, h2⟩
      · cases h
      · exact .inr ⟨rfl, h1, by omega⟩
    · exact .inl rfl
  clear hbr
  rcases hbr2 with rfl | ⟨rfl, rfl, hI⟩
  all_goals
    go_enter Tryz.func9, Tryz.ntmps9
    go_wp2_with (first
      | (go_at_call 15; refine HC.out.mono ?_; rintro e w4 ⟨v4, rfl, h4, hu4⟩
         rw [List.nil_append] at h4
         obtain ⟨v5, w5, hr5, hrow5, hu5⟩ := h4.pushAt 41 (x := 41) rfl (by have := HLn.out; unfold LIM; omega) (n := w4.heap.size) rfl
         rw [← HU.out] at hrow5
         have hst := str_of_row hrow5.row
         have HSt := Lib.hid (fun W (hW : Upd (fun _ => False) w5 W) => str_of_row (hrow5.quiet hW).row)
         have HR5 := Lib.hid hr5
         have HU5 := Lib.hid (hu4.trans hu5)
         clear hr5 hrow5 hu4 hu5 h4 HC)
      | (at_builtin; refine wpList_append_run rfl _ _ _ rfl rfl rfl HR5.out ?_; clear HR5))
    go_region_held3 (fun W => (convert 22 9 v5).run Tryz.prog W = .ok (.string ⟨u.toArray⟩) W) (first | exact hst | exact HSt.out _ ((Upd.refl _ w5).drew) | simp [go_sem, *])
      (first | (go_at_call 16; refine (HM.out _).mono ?_; rintro e w6 ⟨rfl, rfl⟩))
    go_wp2_with fail
    refine bodyPost_ret (v := .tuple #[.string ⟨u.toArray⟩, .int .u64 (M : Int), .bool false, .bool false]) (by simp [results, Tryz.results9, go_sem]) rfl ⟨rfl, ?_⟩
    exact (RowB.strict HU5.out (Nat.le_refl _)).drew

set_option maxRecDepth 100000 in
set_option maxHeartbeats 8000000 in
theorem p_paren (mi si fl mn : Bool) (k lv n L : Nat) (hkl : k * lv ≤ 65536) (hlv : lv ≤ 65536) (hn : n ≤ 2147483648) (w : World) :
    Calls Tryz.prog 9 #[.bool mi, .bool si, .bool fl, .bool mn, .int .u64 (k : Int), .int .u64 (lv : Int), .int .u64 (n : Int), .int .u64 (L : Int)] w fun e w' =>
      e = .returned (.tuple #[.string ⟨(pParen mi si fl mn k lv n L).1.toArray⟩, .int .u64 ((pParen mi si fl mn k lv n L).2.1 : Int), .bool (pParen mi si fl mn k lv n L).2.2.1, .bool (pParen mi si fl mn k lv n L).2.2.2]) ∧ Upd (fun _ => False) w w' := by
  have e41 : (⟨([41] : List UInt8).toArray⟩ : ByteArray) = ⟨#[41]⟩ := rfl
  cases mi
  case true =>
    have hp : pParen true si fl mn k lv n L = ([41], n, fl, mn) := by simp [pParen]
    rw [hp]
    clear hp
    go_enter Tryz.func9, Tryz.ntmps9
    go_wp2_with fail
    refine bodyPost_ret (v := .tuple #[.string ⟨#[41]⟩, .int .u64 (n : Int), .bool fl, .bool mn]) (by simp [results, Tryz.results9, go_sem]) rfl ⟨rfl, Upd.refl _ _⟩
  cases fl
  case true =>
    have hp : pParen false si true mn k lv n L = ([41], n, false, mn) := by simp [pParen]
    rw [hp]
    clear hp
    go_enter Tryz.func9, Tryz.ntmps9
    go_wp2_with fail
    refine bodyPost_ret (v := .tuple #[.string ⟨#[41]⟩, .int .u64 (n : Int), .bool false, .bool mn]) (by simp [results, Tryz.results9, go_sem]) rfl ⟨rfl, Upd.refl _ _⟩
  by_cases hbr : mn = true ∨ (si = false ∧ n < L)
  · have hp := pParen_break si mn k lv n L hbr
    rw [hp]
    exact p_paren_break si mn k lv n L hkl hlv hn w hbr
  · have hmn : mn = false := by
      cases mn
      · rfl
      · exact absurd (.inl rfl) hbr
    subst hmn
    have hp := pParen_plain si k lv n L (by simpa using hbr)
    rw [hp]
    cases si
    · have hI : (L : Int) ≤ (n : Int) := by
        have : ¬ n < L := fun h => hbr (.inr ⟨rfl, h⟩)
        omega
      clear hbr hp
      go_enter Tryz.func9, Tryz.ntmps9
      go_wp2_with fail
      refine bodyPost_ret (v := .tuple #[.string ⟨#[41]⟩, .int .u64 (n : Int), .bool false, .bool false]) (by simp [results, Tryz.results9, go_sem]) rfl ⟨rfl, Upd.refl _ _⟩
    · clear hbr hp
      go_enter Tryz.func9, Tryz.ntmps9
      go_wp2_with fail
      refine bodyPost_ret (v := .tuple #[.string ⟨#[41]⟩, .int .u64 (n : Int), .bool false, .bool false]) (by simp [results, Tryz.results9, go_sem]) rfl ⟨rfl, Upd.refl _ _⟩
end Go.Proofs.YtjljnfmacechfaaGreatFmt
