/-
  n010_150.FnWordPartSglQuotedExact: the walk.
-/
import Derived.Test.YtlblpdbldnnllaaGreatFmtMz
import Derived.Test.YtlblpdbldnnllaaGreatFmtZd
namespace Go.Proofs.YtlblpdbldnnllaaGreatFmt
open Go.RowKit

theorem twText_of1 {s : ByteArray} (h : s.data.toList.all (plB true) = true) : TwText s := fun x hx => plB_tw (List.all_eq_true.1 h x hx)

set_option maxRecDepth 100000 in
set_option maxHeartbeats 8000000 in
theorem rs_main (s : ByteArray) (d : Bool) (w : World) (_ : s.size ≤ maxLen) :
    Calls Tryz.prog 4 #[.string s, .bool d] w fun e w' => e = .returned (.bool true) ∧ Below w.heap.size w w' := by
  have HB := Lib.hid (fun W => zb_FnWordPartSglQuotedExact s (.bool d) W)
  by_cases hz : s.size ≤ 1048576
  · rw [decide_eq_true hz] at HB
    have HPl := Lib.hid (fun W => zz_plain s true (by omega) W)
    have hzI : (s.size : Int) ≤ 1048576 := by omega
    cases hpl : s.data.toList.all (plB true)
    · rw [hpl] at HPl
      clear hz hpl
      go_enter Tryz.func4, Tryz.ntmps4
      go_wp2_with (first
        | (go_at_call 12; refine (HB.out _).mono ?_; rintro e w1 ⟨rfl, rfl⟩)
        | (go_at_call 9; refine (HPl.out _).mono ?_; rintro e w1 ⟨rfl, rfl⟩))
      go_ret
      exact ⟨rfl, Below.refl _ _⟩
    · rw [hpl] at HPl
      have HPr := Lib.hid (fun m W => z_printSgl s d m (twText_of1 hpl) hz W)
      obtain ⟨v0, w0, hmk, hrow0, hu0'⟩ := row_make w (s.size + 3) (by omega) (x := (s.size : Int) + 3) (by omega)
      have hu0 : Upd (fun k => w.heap.size ≤ k) w w0 := hu0'.mono fun _ h => h.elim
      have hL : LIM = 1099511627776 := rfl
      have hss : s.data.toList.length = s.size := rfl
      cases d
      · obtain ⟨v1, w1, hr1, hrow1, hu1⟩ := hrow0.push 39 (x := 39) rfl (by simp; omega)
        obtain ⟨v2, w2, hr2, hrow2, hu2⟩ := hrow1.str s (by simp; omega)
        obtain ⟨v3, w3, hr3, hrow3, hu3⟩ := hrow2.push 39 (x := 39) rfl (by simp [hss]; omega)
        have HR1 := Lib.hid hr1
        have HR2 := Lib.hid hr2
        have HR3 := Lib.hid hr3
        have HW := Lib.hid (And.intro hrow3 (((hu0.trans hu1).trans hu2).trans hu3))
        have he : sglText false s.data.toList = [] ++ [39] ++ s.data.toList ++ [39] := rfl
        rw [he] at HPr
        have hcv := fun W (hW : Upd (fun _ => False) w3 W) => str_of_row ((hrow3.quiet hW).row)
        clear hz hpl hrow0 hu0 hu0' hr1 hr2 hr3 hrow1 hrow2 hrow3 hu1 hu2 hu3 he hL hss
        have HCv := Lib.hid hcv
        clear hcv
        go_enter Tryz.func4, Tryz.ntmps4
        go_wp2_with (first
          | (go_at_call 12; refine (HB.out _).mono ?_; rintro e w1 ⟨rfl, rfl⟩)
          | (go_at_call 9; refine (HPl.out _).mono ?_; rintro e w1 ⟨rfl, rfl⟩)
          | (at_builtin; refine wpList_append_run rfl _ _ _ rfl rfl rfl HR1.out ?_; clear HR1)
          | (at_builtin; refine wpList_append_run rfl _ _ _ rfl rfl rfl HR2.out ?_; clear HR2)
          | (at_builtin; refine wpList_append_run rfl _ _ _ rfl rfl rfl HR3.out ?_; clear HR3)
          | (go_at_call 13; refine (HPr.out false w3).mono ?_))
        rintro e w4 ⟨rfl, hu4⟩
        have HU4 := Lib.hid hu4
        clear hu4
        go_wp2_with (go_at_call 13; refine (HPr.out true w4).mono ?_)
        rintro e w5 ⟨rfl, hu5⟩
        have HU5 := Lib.hid (HU4.out.trans hu5)
        have hcv := HCv.out _ HU5.out
        clear hu5
        go_wp2_with fail
        go_ret
        exact ⟨rfl, (HW.out.2.trans (HU5.out.mono fun _ h => h.elim)).below (fun k hk => hk) (Nat.le_refl _)⟩
      · obtain ⟨va, wa, hr0, hrowa, hua⟩ := hrow0.push 36 (x := 36) rfl (by simp; omega)
        obtain ⟨v1, w1, hr1, hrow1, hu1⟩ := hrowa.push 39 (x := 39) rfl (by simp; omega)
        obtain ⟨v2, w2, hr2, hrow2, hu2⟩ := hrow1.str s (by simp; omega)
        obtain ⟨v3, w3, hr3, hrow3, hu3⟩ := hrow2.push 39 (x := 39) rfl (by simp [hss]; omega)
        have HR0 := Lib.hid hr0
        have HR1 := Lib.hid hr1
        have HR2 := Lib.hid hr2
        have HR3 := Lib.hid hr3
        have HW := Lib.hid (And.intro hrow3 ((((hu0.trans hua).trans hu1).trans hu2).trans hu3))
        have he : sglText true s.data.toList = [] ++ [36] ++ [39] ++ s.data.toList ++ [39] := rfl
        rw [he] at HPr
        have hcv := fun W (hW : Upd (fun _ => False) w3 W) => str_of_row ((hrow3.quiet hW).row)
        clear hz hpl hrow0 hu0 hu0' hr0 hr1 hr2 hr3 hrowa hrow1 hrow2 hrow3 hua hu1 hu2 hu3 he hL hss
        have HCv := Lib.hid hcv
        clear hcv
        go_enter Tryz.func4, Tryz.ntmps4
        go_wp2_with (first
          | (go_at_call 12; refine (HB.out _).mono ?_; rintro e w1 ⟨rfl, rfl⟩)
          | (go_at_call 9; refine (HPl.out _).mono ?_; rintro e w1 ⟨rfl, rfl⟩)
          | (at_builtin; refine wpList_append_run rfl _ _ _ rfl rfl rfl HR0.out ?_; clear HR0)
          | (at_builtin; refine wpList_append_run rfl _ _ _ rfl rfl rfl HR1.out ?_; clear HR1)
          | (at_builtin; refine wpList_append_run rfl _ _ _ rfl rfl rfl HR2.out ?_; clear HR2)
          | (at_builtin; refine wpList_append_run rfl _ _ _ rfl rfl rfl HR3.out ?_; clear HR3)
          | (go_at_call 13; refine (HPr.out false w3).mono ?_))
        rintro e w4 ⟨rfl, hu4⟩
        have HU4 := Lib.hid hu4
        clear hu4
        go_wp2_with (go_at_call 13; refine (HPr.out true w4).mono ?_)
        rintro e w5 ⟨rfl, hu5⟩
        have HU5 := Lib.hid (HU4.out.trans hu5)
        have hcv := HCv.out _ HU5.out
        clear hu5
        go_wp2_with fail
        go_ret
        exact ⟨rfl, (HW.out.2.trans (HU5.out.mono fun _ h => h.elim)).below (fun k hk => hk) (Nat.le_refl _)⟩
  · rw [decide_eq_false hz] at HB
    clear hz
    go_enter Tryz.func4, Tryz.ntmps4
    go_wp2_with (go_at_call 12; refine (HB.out _).mono ?_; rintro e w1 ⟨rfl, rfl⟩)
    go_ret
    exact ⟨rfl, Below.refl _ _⟩
end Go.Proofs.YtlblpdbldnnllaaGreatFmt
