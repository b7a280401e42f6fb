/-
  n010_39.FnPrinterReuseStateless: the walk.
-/
import Derived.Test.YtlblpdbldnnllaaGreatFmtQz
import Derived.Test.YtlblpdbldnnllaaGreatFmtQRY
import GoSem.ClaimData
namespace Go.Proofs.YtlblpdbldnnllaaGreatFmt
open Go.RowKit

set_option maxRecDepth 100000 in
theorem qr_bytes (s t : ByteArray) (a b : Value) (hs : s.size ≤ maxLen) (ht : t.size ≤ maxLen) (w : World) : Calls Tryz.prog 34 #[.string s, .string t, a, b] w fun e w' => ∃ r, e = .returned (.bool r) ∧ w' = w ∧ (r = true → s.size + t.size ≤ 1048576) := by
  unfold maxLen at hs ht
  have hsI : (s.size : Int) ≤ 9223372036854775807 := by omega
  have htI : (t.size : Int) ≤ 9223372036854775807 := by omega
  clear hs ht
  have hcase : (s.size ≤ 1048576 ∧ t.size ≤ 1048576 ∧ s.size + t.size ≤ 1048576) ∨ (s.size ≤ 1048576 ∧ t.size ≤ 1048576 ∧ 1048576 < s.size + t.size) ∨ (s.size ≤ 1048576 ∧ 1048576 < t.size) ∨ 1048576 < s.size := by omega
  rcases hcase with ⟨h1, h2, h3⟩ | ⟨h1, h2, h3⟩ | ⟨h1, h2⟩ | h1
  · have h1I : (s.size : Int) ≤ 1048576 := by omega
    have h2I : (t.size : Int) ≤ 1048576 := by omega
    have h3I : (s.size : Int) + (t.size : Int) ≤ 1048576 := by omega
    have H := Lib.hid h3
    clear h1 h2 h3
    go_enter Tryz.func34, Tryz.ntmps34
    go_wp2
    go_ret
    exact ⟨_, rfl, rfl, fun _ => H.out⟩
  · have h1I : (s.size : Int) ≤ 1048576 := by omega
    have h2I : (t.size : Int) ≤ 1048576 := by omega
    have h3I : (1048576 : Int) < (s.size : Int) + (t.size : Int) := by omega
    clear h1 h2 h3
    go_enter Tryz.func34, Tryz.ntmps34
    go_wp2
    go_ret
    exact ⟨_, rfl, rfl, fun h => by cases h⟩
  · have h1I : (s.size : Int) ≤ 1048576 := by omega
    have h2I : (1048576 : Int) < (t.size : Int) := by omega
    clear h1 h2
    go_enter Tryz.func34, Tryz.ntmps34
    go_wp2
    go_ret
    exact ⟨_, rfl, rfl, fun h => by cases h⟩
  · have h1I : (1048576 : Int) < (s.size : Int) := by omega
    clear h1
    go_enter Tryz.func34, Tryz.ntmps34
    go_wp2
    go_ret
    exact ⟨_, rfl, rfl, fun h => by cases h⟩

/-- The Printer in use, and what each sink has been given. -/
def QS (w0 : World) (pb b tb : Nat) (s : PS) (w : World) (L : List (Nat × List UInt8)) : Prop :=
  ∃ s' O, PrAny pb b tb s' w O ∧ s.Same s' ∧ (∀ k, O k → w0.heap.size ≤ k) ∧ Upd (fun j => w0.heap.size ≤ j) w0 w ∧ ∀ p ∈ L, ∃ F, zsI p.1 w F p.2 ∧ ∀ k, F k → ¬ O k

theorem qs_step {w0 : World} {pb b tb : Nat} {s s1 : PS} {w W w' : World} {L : List (Nat × List UInt8)} {O : Nat → Prop} {l : List UInt8} (hs : s.Same s1) (hO : ∀ k, O k → w0.heap.size ≤ k) (hU : Upd (fun j => w0.heap.size ≤ j) w0 w)
    (hL : ∀ p ∈ L, ∃ F, zsI p.1 w F p.2 ∧ ∀ k, F k → ¬ O k) (hu : Upd (fun _ => False) w W) (hP : PrintL (zsS w.heap.size) pb b tb s1 O (fun j => j = w.heap.size) l W w') : QS w0 pb b tb s w' ((w.heap.size, l) :: L) := by
  obtain ⟨s2, O2, F2, hA2, hs2, hI2, hd2, ho2, hu2⟩ := hP
  have h1 := hU.size
  have h2 := hu.size
  refine ⟨s2, O2, hA2, hs.trans hs2, fun k hk => ?_, (hU.trans (hu.mono fun _ h => h.elim)).trans (hu2.mono fun k hk => ?_), fun p hp => ?_⟩
  · rcases ho2 k (.inl hk) with (h | h) | h
    · exact hO k h
    · omega
    · omega
  · rcases hk with h | h
    · exact hO k h
    · omega
  · rcases List.mem_cons.1 hp with rfl | hp
    · exact ⟨F2, hI2, fun k hk ho => hd2 k ho hk⟩
    · obtain ⟨F, hz, hF⟩ := hL p hp
      have hlt := (zs_law p.1).lt hz
      refine ⟨F, (zs_law p.1).stable ((zs_law p.1).stable hz hu fun _ _ h => h) hu2 fun k hk h => ?_, fun k hk ho => ?_⟩
      · rcases h with h | h
        · exact hF k hk h
        · have := hlt k hk; omega
      · rcases ho2 k (.inl ho) with (h | h) | h
        · exact hF k hk h
        · have := hlt k hk; omega
        · have := hlt k hk; omega

section
variable {w0 : World} {pb b tb : Nat} {s : PS} {w : World} {L : List (Nat × List UInt8)}
theorem qs_word (h : QS w0 pb b tb s w L) (hkp : s.kp = false) (hms : (s.mi && s.si) = false) (hk : s.k ≤ 1073741824) {t : ByteArray} (hal : t.data.toList.all isAl = true) (hz : t.size ≤ 65536) :
    Calls Tryz.prog 24 #[.pointer (some ⟨pb, 0, none⟩), .iface 37 (.pointer (some ⟨w.heap.size, 0, none⟩)), .iface 43 (.pointer (some ⟨w.heap.size + 1 + 2, 0, none⟩))] ((wordObjs (w.heap.size + 1) t).foldl World.alloc (w.alloc (.cells #[.slice none 0 0] 39)))
      fun e w' => e = .returned .nilIface ∧ QS w0 pb b tb s w' ((w.heap.size, t.data.toList) :: L) := by
  obtain ⟨s', O, hA, hs, hO, hU, hL⟩ := h
  obtain ⟨hA0, hI, hOB, hu0, hWd⟩ := sink_word hA t
  obtain ⟨q1, q2, q3, q4, q5, q6, q7, _⟩ := hs
  refine (pg_word (S := zsS w.heap.size) (Fs := fun j => j = w.heap.size) (zs_law _) (fun _ => rfl) hA0 (by rw [q5]; exact hkp) (by rw [q6, q7]; exact hms) (by rw [q1]; exact hk) hI hOB hWd (plain_ok hal _) (by rw [plain_size]; unfold LIM; omega)).mono ?_
  rintro e w' ⟨rfl, hP⟩
  rw [plain_text hal] at hP
  exact ⟨rfl, qs_step ⟨q1, q2, q3, q4, q5, q6, q7, by assumption⟩ hO hU hL hu0 hP⟩

theorem qs_comment (h : QS w0 pb b tb s w L) (hkp : s.kp = false) (hms : (s.mi && s.si) = false) (hk : s.k ≤ 1073741824) (t : ByteArray) :
    Calls Tryz.prog 24 #[.pointer (some ⟨pb, 0, none⟩), .iface 37 (.pointer (some ⟨w.heap.size, 0, none⟩)), .iface 57 (.pointer (some ⟨w.heap.size + 1, 0, none⟩))] ((w.alloc (.cells #[.slice none 0 0] 39)).alloc (.cells #[.int .u32 0, .int .u32 0, .string t] 62))
      fun e w' => (∃ t v, e = .returned (.iface t v)) ∧ QS w0 pb b tb s w' ((w.heap.size, []) :: L) := by
  obtain ⟨s', O, hA, hs, hO, hU, hL⟩ := h
  have hlt := hA.lt
  have hu0 : Upd (fun _ => False) w ((w.alloc (.cells #[.slice none 0 0] 39)).alloc (.cells #[.int .u32 0, .int .u32 0, .string t] 62)) := ((Upd.refl _ w).alloc _).alloc _
  have hB : ((w.alloc (.cells #[.slice none 0 0] 39)).alloc (.cells #[.int .u32 0, .int .u32 0, .string t] 62)).heap[w.heap.size]? = some (.cells #[.slice none 0 0] 39 (0, 0)) := (Below.heap_alloc _ _ _ (by simp)).trans (heap_alloc_new w _)
  obtain ⟨q1, q2, q3, q4, q5, q6, q7, _⟩ := hs
  refine (pg_comment (S := zsS w.heap.size) (Fs := fun j => j = w.heap.size) (zs_law _) (fun _ => rfl) (hA.stable hu0 fun _ _ h => h) (by rw [q5]; exact hkp) (by rw [q6, q7]; exact hms) (by rw [q1]; exact hk) (zs_zero hB) (fun j hj e => by have := hlt j hj; omega) (w.heap.size + 1)).mono ?_
  rintro e w' ⟨he, hP⟩
  exact ⟨he, qs_step ⟨q1, q2, q3, q4, q5, q6, q7, by assumption⟩ hO hU hL hu0 hP⟩

theorem qs_file (h : QS w0 pb b tb s w L) (hkp : s.kp = false) (hms : (s.mi && s.si) = false) (hk : s.k ≤ 1073741824) :
    Calls Tryz.prog 24 #[.pointer (some ⟨pb, 0, none⟩), .iface 37 (.pointer (some ⟨w.heap.size, 0, none⟩)), .iface 63 (.pointer (some ⟨w.heap.size + 1, 0, none⟩))] ((w.alloc (.cells #[.slice none 0 0] 39)).alloc (.cells #[.string ⟨#[]⟩, .slice none 0 0, .slice none 0 0] 67))
      fun e w' => e = .returned .nilIface ∧ QS w0 pb b tb s w' ((w.heap.size, [10]) :: L) := by
  obtain ⟨s', O, hA, hs, hO, hU, hL⟩ := h
  have hlt := hA.lt
  have hu0 : Upd (fun _ => False) w ((w.alloc (.cells #[.slice none 0 0] 39)).alloc (.cells #[.string ⟨#[]⟩, .slice none 0 0, .slice none 0 0] 67)) := ((Upd.refl _ w).alloc _).alloc _
  have hB : ((w.alloc (.cells #[.slice none 0 0] 39)).alloc (.cells #[.string ⟨#[]⟩, .slice none 0 0, .slice none 0 0] 67)).heap[w.heap.size]? = some (.cells #[.slice none 0 0] 39 (0, 0)) := (Below.heap_alloc _ _ _ (by simp)).trans (heap_alloc_new w _)
  have hF : ((w.alloc (.cells #[.slice none 0 0] 39)).alloc (.cells #[.string ⟨#[]⟩, .slice none 0 0, .slice none 0 0] 67)).heap[w.heap.size + 1]? = some (.cells #[.string ⟨#[]⟩, .slice none 0 0, .slice none 0 0] 67 (0, 0)) := by
    have h := heap_alloc_new (w.alloc (.cells #[.slice none 0 0] 39)) (.cells #[.string ⟨#[]⟩, .slice none 0 0, .slice none 0 0] 67)
    rw [show (w.alloc (.cells #[.slice none 0 0] 39)).heap.size = w.heap.size + 1 by simp] at h
    exact h
  obtain ⟨q1, q2, q3, q4, q5, q6, q7, _⟩ := hs
  refine (pe_Print (S := zsS w.heap.size) (fb := w.heap.size + 1) (Fs := fun j => j = w.heap.size) (zs_law _) (fun _ => rfl) (hA.stable hu0 fun _ _ h => h) (by rw [q5]; exact hkp) (by rw [q6, q7]; exact hms) (by rw [q1]; exact hk) (zs_zero hB) (fun j hj e => by have := hlt j hj; omega) ⟨_, hF⟩ (fun e => by have := hlt _ e; omega) (by omega)).mono ?_
  rintro e w' ⟨rfl, hP⟩
  exact ⟨rfl, qs_step ⟨q1, q2, q3, q4, q5, q6, q7, by assumption⟩ hO hU hL hu0 hP⟩

theorem QS.get (h : QS w0 pb b tb s w L) {n : Nat} {l : List UInt8} (hm : (n, l) ∈ L) : ∃ v, w.cell? ⟨n, 0, none⟩ = some v ∧ Row w v l := by
  obtain ⟨s', O, hA, hs, hO, hU, hL⟩ := h
  obtain ⟨F, ⟨v, hb, hr, _, _⟩, _⟩ := hL (n, l) hm
  exact ⟨v, cell_at hb 0, hr⟩
theorem QS.below (h : QS w0 pb b tb s w L) {w' : World} (hu : Upd (fun _ => False) w w') : Below w0.heap.size w0 w' := by
  obtain ⟨s', O, hA, hs, hO, hU, hL⟩ := h
  exact (hU.trans (hu.mono fun _ h => h.elim)).below (fun j hj => hj) (Nat.le_refl _)
end

set_option maxRecDepth 100000 in
set_option maxHeartbeats 8000000 in
theorem qr_main (s t : ByteArray) (k : Nat) (mi : Bool) (w : World) (hsm : s.size ≤ maxLen) (htm : t.size ≤ maxLen) :
    Calls Tryz.prog 7 #[.string s, .string t, .int .u64 (k : Int), .bool mi] w fun e w' => e = .returned (.bool true) ∧ Below w.heap.size w w' := by
  obtain ⟨Q, HQ, HB⟩ := callsVar (qr_bytes s t (.int .u64 (k : Int)) (.bool mi) hsm htm w)
  clear hsm htm
  go_enter Tryz.func7, Tryz.ntmps7
  go_wp2_with (go_at_call 34; refine HB.out.mono ?_)
  rintro e w1 hq
  obtain ⟨r, rfl, hw, hr⟩ := HQ.out e w1 hq
  obtain rfl := hw.symm
  clear hq hw
  cases r
  · clear hr
    go_wp2_with fail
    go_ret
    exact ⟨rfl, Below.refl _ _⟩
  have hz := hr rfl
  clear hr
  have HAl := Lib.hid (fun W => zz_alnum s (by omega) W)
  have hcase : 65536 < s.size ∨ (s.size ≤ 65536 ∧ 65536 < t.size) ∨ (s.size ≤ 65536 ∧ t.size ≤ 65536 ∧ 1073741824 < k) ∨ (s.size ≤ 65536 ∧ t.size ≤ 65536 ∧ k ≤ 1073741824) := by omega
  clear hz
  rcases hcase with g1 | ⟨g1, g2⟩ | ⟨g1, g2, g3⟩ | ⟨g1, g2, g3⟩
  · have g1I : (65536 : Int) < (s.size : Int) := by omega
    clear g1
    go_wp2_with fail
    go_ret
    exact ⟨rfl, Below.refl _ _⟩
  · have g1I : (s.size : Int) ≤ 65536 := by omega
    have g2I : (65536 : Int) < (t.size : Int) := by omega
    clear g1 g2
    go_wp2_with fail
    go_ret
    exact ⟨rfl, Below.refl _ _⟩
  · have g1I : (s.size : Int) ≤ 65536 := by omega
    have g2I : (t.size : Int) ≤ 65536 := by omega
    have g3I : (1073741824 : Int) < (k : Int) := by omega
    clear g1 g2 g3
    go_wp2_with fail
    go_ret
    exact ⟨rfl, Below.refl _ _⟩
  · have g1I : (s.size : Int) ≤ 65536 := by omega
    have g2I : (t.size : Int) ≤ 65536 := by omega
    have g3I : (k : Int) ≤ 1073741824 := by omega
    cases hal : s.data.toList.all isAl
    · rw [hal] at HAl
      clear g1 g2 g3 hal
      go_wp2_with (go_at_call 15; refine (HAl.out _).mono ?_; rintro e w1 ⟨rfl, hw⟩; obtain rfl := hw.symm)
      go_ret
      exact ⟨rfl, Below.refl _ _⟩
    · rw [hal] at HAl
      obtain ⟨W, hW⟩ : ∃ W, W = (qr_boxes w.heap.size k mi).foldl World.alloc w := ⟨_, rfl⟩
      have hn := qr_new k mi w
      rw [← hW] at hn
      have HN := Lib.hid hn
      have hms : ((qr_PS k mi).mi && (qr_PS k mi).si) = false := by cases mi <;> rfl
      have HH := Lib.hid (And.intro hal (And.intro g1 (And.intro g3 hms)))
      clear hn g1 g2 g3 hal hms
      simp only [qr_boxes, List.foldl_cons, List.foldl_nil] at hW
      go_wp2_with (first
        | (go_at_call 15; refine (HAl.out _).mono ?_; rintro e w1 ⟨rfl, hw⟩; obtain rfl := hw.symm)
        | (go_at_call 17; refine (mk_in _ _).mono ?_; rintro e w1 ⟨rfl, rfl⟩)
        | (go_at_call 22; refine (mk_mi _ _).mono ?_; rintro e w1 ⟨rfl, rfl⟩)
        | (go_at_call 16; rw [← hW]; refine HN.out.mono ?_))
      rintro e w2 ⟨pb, rfl, b, tb, O, hA, hO, hu⟩
      clear hW
      have hq2 : QS w pb b tb (qr_PS k mi) w2 [] := ⟨_, O, hA, PS.Same.refl _, hO, hu.mono fun _ h => h.elim, fun p hp => by cases hp⟩
      have HQ2 := Lib.hid hq2
      clear hA hO hu hq2
      go_wp2_with (first
        | (go_at_call 25; refine (zz_word s _).mono ?_; rintro e w3 ⟨rfl, rfl⟩)
        | (go_at_call 24; refine (qs_word HQ2.out rfl HH.out.2.2.2 HH.out.2.2.1 HH.out.1 HH.out.2.1).mono ?_))
      rintro e w3 ⟨rfl, hq3⟩
      have HQ3 := Lib.hid hq3
      clear hq3
      go_wp2_with (go_at_call 24; refine (qs_comment HQ3.out rfl HH.out.2.2.2 HH.out.2.2.1 t).mono ?_)
      rintro e w4 ⟨⟨et, ev, rfl⟩, hq4⟩
      have HQ4 := Lib.hid hq4
      clear hq4
      go_wp2_with (go_at_call 24; refine (qs_file HQ4.out rfl HH.out.2.2.2 HH.out.2.2.1).mono ?_)
      rintro e w5 ⟨rfl, hq5⟩
      have HQ5 := Lib.hid hq5
      clear hq5
      go_wp2_with (first
        | (go_at_call 25; refine (zz_word s _).mono ?_; rintro e w6 ⟨rfl, rfl⟩)
        | (go_at_call 24; refine (qs_word HQ5.out rfl HH.out.2.2.2 HH.out.2.2.1 HH.out.1 HH.out.2.1).mono ?_))
      rintro e w6 ⟨rfl, hq6⟩
      obtain ⟨v1, c1, r1⟩ := hq6.get (n := w2.heap.size) (l := s.data.toList) (by simp)
      obtain ⟨v2, c2, r2⟩ := hq6.get (n := w3.heap.size) (l := []) (by simp)
      obtain ⟨v3, c3, r3⟩ := hq6.get (n := w4.heap.size) (l := [10]) (by simp)
      obtain ⟨v4, c4, r4⟩ := hq6.get (n := w5.heap.size) (l := s.data.toList) (by simp)
      obtain ⟨vo, vc, rfl⟩ : ∃ ao c, v2 = .slice ao 0 c := r2.form
      have hsl : s.data.toList.length ≤ 1099511627776 := by have := HH.out.2.1; exact Nat.le_trans this (by decide)
      have HS3 := Lib.hid (fun W (hW : Upd (fun _ => False) w6 W) => same_bytes (r3.stable hW fun _ _ h => h) ⟨#[10]⟩ rfl (by decide))
      have HSS := Lib.hid (fun W (hW : Upd (fun _ => False) w6 W) => same_slices (r1.stable hW fun _ _ h => h) (r4.stable hW fun _ _ h => h) hsl)
      have HS4 := Lib.hid (fun W (hW : Upd (fun _ => False) w6 W) => same_bytes (r4.stable hW fun _ _ h => h) s rfl hsl)
      have HQ6 := Lib.hid hq6
      clear hq6 r1 r2 r3 r4 hsl
      go_wp2_with fail
      go_region_held3 (fun W => W.cell? ⟨w2.heap.size, 0, none⟩ = some v1 ∧ W.cell? ⟨w3.heap.size, 0, none⟩ = some (.slice vo 0 vc) ∧ W.cell? ⟨w4.heap.size, 0, none⟩ = some v3 ∧ W.cell? ⟨w5.heap.size, 0, none⟩ = some v4) (first | exact ⟨k1, k2, k3, k4⟩ | exact ⟨c1, c2, c3, c4⟩ | simp [go_sem, *])
        (first
        | (go_at_call 26; refine (HS3.out _ (Upd.refl _ w6).drew).mono ?_; rintro e w7 ⟨rfl, hu7⟩
           have k1 := hu7.cell c1 fun h => h
           have k2 := hu7.cell c2 fun h => h
           have k3 := hu7.cell c3 fun h => h
           have k4 := hu7.cell c4 fun h => h
           have HU7 := Lib.hid ((Upd.refl (fun _ => False) w6).drew.trans hu7); clear hu7 c1 c2 c3 c4 HS3)
        | (go_at_call 35; refine (HSS.out _ HU7.out).mono ?_; rintro e w8 ⟨rfl, hu8⟩
           have k1 := hu8.cell k1 fun h => h
           have k2 := hu8.cell k2 fun h => h
           have k3 := hu8.cell k3 fun h => h
           have k4 := hu8.cell k4 fun h => h
           have HU8 := Lib.hid (HU7.out.trans hu8); clear hu8 HSS)
        | (go_at_call 26; refine (HS4.out _ HU8.out).mono ?_; rintro e w9 ⟨rfl, hu9⟩
           have k1 := hu9.cell k1 fun h => h
           have k2 := hu9.cell k2 fun h => h
           have k3 := hu9.cell k3 fun h => h
           have k4 := hu9.cell k4 fun h => h
           have HU9 := Lib.hid (HU8.out.trans hu9); clear hu9))
      go_wp2_with fail
      go_ret
      exact ⟨rfl, HQ6.out.below HU9.out⟩
end Go.Proofs.YtlblpdbldnnllaaGreatFmt
