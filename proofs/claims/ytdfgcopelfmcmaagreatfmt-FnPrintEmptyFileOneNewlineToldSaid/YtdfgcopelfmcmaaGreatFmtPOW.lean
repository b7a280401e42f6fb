/-
  n010_39.FnPrintEmptyFileOneNewline: the walk.
-/
import Derived.Test.YtdfgcopelfmcmaaGreatFmtPOY
namespace Go.Proofs.YtdfgcopelfmcmaaGreatFmt
open Go.RowKit

set_option maxRecDepth 100000 in
set_option maxHeartbeats 8000000 in
theorem po_main (k : Nat) (mi si bn fn sw sr keep : Bool) (w : World) :
    Calls Tryz.prog 8 #[.int .u64 (k : Int), .bool mi, .bool si, .bool bn, .bool fn, .bool sw, .bool sr, .bool keep] w fun e w' => e = .returned (.bool true) ∧ Below w.heap.size w w' := by
  by_cases hk : k ≤ 1073741824
  · have hkI : (k : Int) ≤ 1073741824 := by omega
    obtain ⟨W, hW⟩ : ∃ W, W = (boxes8 w.heap.size k mi si bn fn sw sr keep).foldl World.alloc w := ⟨_, rfl⟩
    have hn := new8 k mi si bn fn sw sr keep w
    rw [← hW] at hn
    have HN := Lib.hid hn
    clear hn
    simp only [boxes8, List.foldl_cons, List.foldl_nil] at hW
    go_enter Tryz.func8, Tryz.ntmps8
    go_wp2_with (first
      | (go_at_call 22; refine (mk_in _ _).mono ?_; rintro e w1 ⟨rfl, rfl⟩)
      | (go_at_call 23; refine (mk_bn _ _).mono ?_; rintro e w1 ⟨rfl, rfl⟩)
      | (go_at_call 24; refine (mk_fn _ _).mono ?_; rintro e w1 ⟨rfl, rfl⟩)
      | (go_at_call 25; refine (mk_sw _ _).mono ?_; rintro e w1 ⟨rfl, rfl⟩)
      | (go_at_call 26; refine (mk_sr _ _).mono ?_; rintro e w1 ⟨rfl, rfl⟩)
      | (go_at_call 27; refine (mk_kp _ _).mono ?_; rintro e w1 ⟨rfl, rfl⟩)
      | (go_at_call 28; refine (mk_mi _ _).mono ?_; rintro e w1 ⟨rfl, rfl⟩)
      | (go_at_call 29; refine (mk_si _ _).mono ?_; rintro e w1 ⟨rfl, rfl⟩)
      | (go_at_call 21; rw [← hW]; refine HN.out.mono ?_))
    rintro e w1 ⟨pb, rfl, b, tb, O, hA, hO, hu⟩
    clear hW
    have hlt := hA.lt
    have hu0 : Upd (fun _ => False) w1 ((w1.alloc (.cells #[.slice none 0 0] 44)).alloc (.cells #[.string ⟨#[]⟩, .slice none 0 0, .slice none 0 0] 52)) := ((Upd.refl _ w1).alloc _).alloc _
    have hB : ((w1.alloc (.cells #[.slice none 0 0] 44)).alloc (.cells #[.string ⟨#[]⟩, .slice none 0 0, .slice none 0 0] 52)).heap[w1.heap.size]? = some (.cells #[.slice none 0 0] 44 (0, 0)) := (Below.heap_alloc _ _ _ (by simp)).trans (heap_alloc_new w1 _)
    have hF : ((w1.alloc (.cells #[.slice none 0 0] 44)).alloc (.cells #[.string ⟨#[]⟩, .slice none 0 0, .slice none 0 0] 52)).heap[w1.heap.size + 1]? = some (.cells #[.string ⟨#[]⟩, .slice none 0 0, .slice none 0 0] 52 (0, 0)) := by
      have h := heap_alloc_new (w1.alloc (.cells #[.slice none 0 0] 44)) (.cells #[.string ⟨#[]⟩, .slice none 0 0, .slice none 0 0] 52)
      rw [show (w1.alloc (.cells #[.slice none 0 0] 44)).heap.size = w1.heap.size + 1 by simp] at h
      exact h
    have hA0 := hA.stable hu0 fun _ _ h => h
    have hI := zs_zero hB
    have hOB : ∀ j, O j → ¬ j = w1.heap.size := fun j hj e => by have := hlt j hj; omega
    have HO := Lib.hid (And.intro hO (And.intro hu hu0))
    have hpk : (PS8 k mi si bn fn sw sr keep).k ≤ 1073741824 := by rw [PS8_k]; exact hk
    have hz1 := hu.size
    cases hms : mi && si
    · obtain ⟨Q, HQ, HC⟩ := callsVar (pe_Print (S := zsS w1.heap.size) (fb := w1.heap.size + 1) (Fs := fun j => j = w1.heap.size) (zs_law _) (fun _ => rfl) hA0 hms hpk hI hOB ⟨_, hF⟩ (fun e => by have := hlt _ e; omega) (by omega))
      clear hA hO hu hlt hu0 hB hF hA0 hI hOB hpk hz1
      go_wp2_with (go_at_call 30; refine HC.out.mono ?_)
      rintro e w2 hq
      obtain ⟨rfl, s', O', F', _, _, ⟨v, hbz, hvz, hvn, _⟩, _, _, hu2⟩ := HQ.out e w2 hq
      clear hq
      have c0 : w2.cell? ⟨w1.heap.size, 0, none⟩ = some v := cell_at hbz 0
      have HSame := Lib.hid (same_bytes hvz ⟨#[10]⟩ rfl (by decide))
      have HU2 := Lib.hid hu2
      clear hbz hvz hvn hu2
      have hend : ∀ w3, Upd (fun _ => False) w2 w3 → Below w.heap.size w w3 := fun w3 h3 => by
        obtain ⟨hO, hu, hu0⟩ := HO.out
        have hz := hu.size
        have hA : Upd (fun j => w.heap.size ≤ j) w w3 := (((hu.mono fun _ h => h.elim).trans (hu0.mono fun _ h => h.elim)).trans (HU2.out.mono fun j hj => by
          rcases hj with h | h
          · exact hO j h
          · omega)).trans (h3.mono fun _ h => h.elim)
        exact hA.below (fun j hj => hj) (Nat.le_refl _)
      have HEnd := Lib.hid hend
      clear hend
      cases hmi : mi
      · go_wp2_with (go_at_call 31; refine HSame.out.mono ?_; rintro e w3 ⟨rfl, hu3⟩; have HU3 := Lib.hid hu3; clear hu3)
        go_ret
        exact ⟨rfl, HEnd.out _ HU3.out⟩
      · have hsi : si = false := by rw [hmi] at hms; exact hms
        subst hsi
        go_wp2_with (go_at_call 31; refine HSame.out.mono ?_; rintro e w3 ⟨rfl, hu3⟩; have HU3 := Lib.hid hu3; clear hu3)
        go_ret
        exact ⟨rfl, HEnd.out _ HU3.out⟩
    · obtain ⟨Q, HQ, HC⟩ := callsVar (pe_Print_no (S := zsS w1.heap.size) hA0 hms (.iface 48 (.pointer (some ⟨w1.heap.size + 1, 0, none⟩))))
      have HI := Lib.hid hI
      have HOB := Lib.hid hOB
      clear hA hO hu hlt hu0 hB hF hA0 hI hOB hpk hz1
      obtain ⟨rfl, rfl⟩ : mi = true ∧ si = true := by simpa using hms
      go_wp2_with (go_at_call 30; refine HC.out.mono ?_)
      rintro e w2 hq
      obtain ⟨⟨t, x, rfl⟩, s', _, _, hu2⟩ := HQ.out e w2 hq
      clear hq
      obtain ⟨v, hbz, hvz, hvn, _⟩ := (zs_law w1.heap.size).stable HI.out hu2 fun j hj ho => HOB.out j ho hj
      obtain ⟨vo, vc, rfl⟩ : ∃ ao c, v = .slice ao 0 c := hvz.form
      have c0 : w2.cell? ⟨w1.heap.size, 0, none⟩ = some (.slice vo 0 vc) := cell_at hbz 0
      have HU2 := Lib.hid hu2
      clear hbz hvz hvn hu2
      go_wp2_with fail
      go_ret
      obtain ⟨hO, hu, hu0⟩ := HO.out
      have hA : Upd (fun j => w.heap.size ≤ j) w w2 := ((hu.mono fun _ h => h.elim).trans (hu0.mono fun _ h => h.elim)).trans (HU2.out.mono hO)
      exact ⟨rfl, hA.below (fun j hj => hj) (Nat.le_refl _)⟩
  · have hkI : (1073741824 : Int) < (k : Int) := by omega
    go_enter Tryz.func8, Tryz.ntmps8
    go_wp2_with fail
    go_ret
    exact ⟨rfl, Below.refl _ _⟩
end Go.Proofs.YtdfgcopelfmcmaaGreatFmt
