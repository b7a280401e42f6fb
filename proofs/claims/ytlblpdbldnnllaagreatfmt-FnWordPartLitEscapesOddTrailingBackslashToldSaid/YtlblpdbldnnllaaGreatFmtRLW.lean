/-
  n010_150.FnWordPartLitEscapesOddTrailingBackslash: the walk.
-/
import Derived.Test.YtlblpdbldnnllaaGreatFmtMz
import Derived.Test.YtlblpdbldnnllaaGreatFmtZd
namespace Go.Proofs.YtlblpdbldnnllaaGreatFmt
open Go.RowKit

theorem twText_of {nl : Bool} {s : ByteArray} (h : s.data.toList.all (plB nl) = true) : TwText s := fun x hx => plB_tw (List.all_eq_true.1 h x hx)

set_option maxRecDepth 100000 in
set_option maxHeartbeats 4000000 in
theorem rl_main (s : ByteArray) (w : World) (_ : s.size ≤ maxLen) :
    Calls Tryz.prog 3 #[.string s] w fun e w' => e = .returned (.bool true) ∧ Below w.heap.size w w' := by
  have HB := Lib.hid (fun W => zb_FnWordPartLitEscapesOddTrailingBackslash s W)
  by_cases hz : s.size ≤ 1048576
  · rw [decide_eq_true hz] at HB
    have HPl := Lib.hid (fun W => zz_plain s false (by omega) W)
    have hzI : (s.size : Int) ≤ 1048576 := by omega
    cases hpl : s.data.toList.all (plB false)
    · rw [hpl] at HPl
      clear hz hpl
      go_enter Tryz.func3, Tryz.ntmps3
      go_wp2_with (first
        | (go_at_call 8; refine (HB.out _).mono ?_; rintro e w1 ⟨rfl, rfl⟩)
        | (go_at_call 9; refine (HPl.out _).mono ?_; rintro e w1 ⟨rfl, rfl⟩))
      go_ret
      exact ⟨rfl, Below.refl _ _⟩
    · rw [hpl] at HPl
      have HPr := Lib.hid (z_printLit s 1 false (twText_of hpl) hz w)
      have hev := trailN_lit s.data.toList
      obtain ⟨o, ho⟩ : ∃ o : ByteArray, o = ⟨(litText s.data.toList).toArray⟩ := ⟨_, rfl⟩
      have hol : o.data.toList = litText s.data.toList := by rw [ho]
      have hosz : o.size ≤ 1048577 := by
        have h1 := litText_len s
        have h2 : o.size = o.data.toList.length := rfl
        rw [h2, hol]
        omega
      rw [← ho] at HPr
      have HTr := Lib.hid (fun W => zz_trailing o (by omega) W)
      obtain ⟨t, ht⟩ : ∃ t, t = trailN o.data.toList := ⟨_, rfl⟩
      rw [← ht] at HTr
      rw [← hol, ← ht] at hev
      have htI : (t : Int) % 2 = 0 := by omega
      have hcase : o = s ∨ (o ≠ s ∧ o = s ++ ⟨#[92]⟩) := by
        by_cases he : o = s
        · exact .inl he
        · refine .inr ⟨he, ?_⟩
          have h1 : litText s.data.toList = s.data.toList ∨ litText s.data.toList = s.data.toList ++ [92] := by unfold litText; split <;> simp
          rw [← hol] at h1
          rcases h1 with h1 | h1
          · exact absurd (ByteArray.ext (Array.ext' h1)) he
          · apply ByteArray.ext
            apply Array.ext'
            rw [h1, ByteArray.data_append, Array.toList_append]
      clear hz hpl ho hol hosz ht hev
      rcases hcase with rfl | ⟨hne, he⟩
      · go_enter Tryz.func3, Tryz.ntmps3
        go_wp2_with (first
          | (go_at_call 8; refine (HB.out _).mono ?_; rintro e w1 ⟨rfl, rfl⟩)
          | (go_at_call 9; refine (HPl.out _).mono ?_; rintro e w1 ⟨rfl, rfl⟩)
          | (go_at_call 10; refine HPr.out.mono ?_; rintro e w1 ⟨rfl, hu1⟩; have HU1 := Lib.hid hu1; clear hu1)
          | (go_at_call 11; refine (HTr.out _).mono ?_; rintro e w2 ⟨rfl, rfl⟩))
        go_ret
        exact ⟨rfl, HU1.out.below (fun k hk => hk.elim) (Nat.le_refl _)⟩
      · have hneL : (o.toList == s.toList) = false := by
          rw [beq_eq_false_iff_ne]
          intro h
          exact hne (ByteArray.ext (Array.ext' (by rw [← ByteArray.toList_eq, ← ByteArray.toList_eq]; exact h)))
        have heL : (o.toList == (s ++ ⟨#[92]⟩ : ByteArray).toList) = true := by rw [he]; exact beq_self_eq_true _
        clear hne he
        go_enter Tryz.func3, Tryz.ntmps3
        go_wp2_with (first
          | (go_at_call 8; refine (HB.out _).mono ?_; rintro e w1 ⟨rfl, rfl⟩)
          | (go_at_call 9; refine (HPl.out _).mono ?_; rintro e w1 ⟨rfl, rfl⟩)
          | (go_at_call 10; refine HPr.out.mono ?_; rintro e w1 ⟨rfl, hu1⟩; have HU1 := Lib.hid hu1; clear hu1)
          | (go_at_call 11; refine (HTr.out _).mono ?_; rintro e w2 ⟨rfl, rfl⟩))
        go_ret
        exact ⟨rfl, HU1.out.below (fun k hk => hk.elim) (Nat.le_refl _)⟩
  · rw [decide_eq_false hz] at HB
    clear hz
    go_enter Tryz.func3, Tryz.ntmps3
    go_wp2_with (go_at_call 8; refine (HB.out _).mono ?_; rintro e w1 ⟨rfl, rfl⟩)
    go_ret
    exact ⟨rfl, Below.refl _ _⟩
end Go.Proofs.YtlblpdbldnnllaaGreatFmt
