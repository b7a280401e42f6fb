/-
  n010_43.FnSemiOrNewlSingleLine: the walk.
-/
import Derived.Test.YtmdkpihlhdjjaaaGreatFmtKCc
import Derived.Test.YtmdkpihlhdjjaaaGreatFmtKNewX
import Derived.Test.YtmdkpihlhdjjaaaGreatFmtKVp
import Derived.Deep.DeepCutAuto
import GoSem.ClaimData
namespace Go.Proofs.YtmdkpihlhdjjaaaGreatFmt
open Go.RowKit

def co_opts (n : Nat) (mi si : Bool) (k : Nat) (kp : Bool) : List POpt :=
  [⟨32, n, .bool mi, optMi mi⟩, ⟨33, n + 1, .bool si, optSi si⟩, ⟨31, n + 2, .int .u64 (k : Int), optIn k⟩, ⟨159, n + 3, .bool kp, optKp kp⟩]
theorem co_good (n : Nat) (mi si : Bool) (k : Nat) (kp : Bool) : ∀ o ∈ co_opts n mi si k kp, o.Good := by
  intro o ho
  simp only [co_opts, List.mem_cons, List.not_mem_nil, or_false] at ho
  rcases ho with rfl | rfl | rfl | rfl
  · exact ⟨mi_opt _ _, fun args w => by kernel_rfl⟩
  · exact ⟨si_opt _ _, fun args w => by kernel_rfl⟩
  · exact ⟨in_opt _ _, fun args w => by kernel_rfl⟩
  · exact ⟨kp_opt _ _, fun args w => by kernel_rfl⟩
def co_boxes (n : Nat) (mi si : Bool) (k : Nat) (kp : Bool) : List Obj :=
  [.cells #[.bool mi] 4, .cells #[.bool si] 4, .cells #[.int .u64 (k : Int)] 22, .cells #[.bool kp] 4,
    .cells #[.func (.func 32) #[] #[.pointer (some ⟨n, 0, none⟩)], .func (.func 33) #[] #[.pointer (some ⟨n + 1, 0, none⟩)], .func (.func 31) #[] #[.pointer (some ⟨n + 2, 0, none⟩)], .func (.func 159) #[] #[.pointer (some ⟨n + 3, 0, none⟩)]] 27]
def co_PS (mi si : Bool) (k : Nat) : PS := optKp false (optIn k (optSi si (optMi mi PS0)))
theorem co_new (mi si : Bool) (k : Nat) (w : World) : Calls Tryz.prog 8 #[.slice (some ⟨w.heap.size + 4, 0, none⟩) 4 4] ((co_boxes w.heap.size mi si k false).foldl World.alloc w) fun e w' =>
    ∃ pb, e = .returned (.pointer (some ⟨pb, 0, none⟩)) ∧ ∃ b tb O, PrAny pb b tb (co_PS mi si k) w' O ∧ (∀ k, O k → w.heap.size ≤ k) ∧ Upd (fun _ => False) w w' := by
  have hb := fun i o (h : (co_boxes w.heap.size mi si k false)[i]? = some o) => allocs_get (co_boxes w.heap.size mi si k false) w h
  have hu := allocs_upd (co_boxes w.heap.size mi si k false) w
  have hv := hb 4 _ rfl
  have hn := new_printer (co_opts w.heap.size mi si k false) (co_good _ _ _ _ _) (w := (co_boxes w.heap.size mi si k false).foldl World.alloc w) (a := w.heap.size + 4) (c := 4) (by simp [co_opts]) (fun j o hj => by
    rcases j with _ | _ | _ | _ | j
    all_goals first
      | (simp [co_opts] at hj; done)
      | (simp only [co_opts, List.getElem?_cons_succ, List.getElem?_cons_zero, Option.some.injEq] at hj; subst hj; first
          | exact ⟨cell_at hv 0, cell_at (hb 0 _ rfl) 0⟩ | exact ⟨cell_at hv 1, cell_at (hb 1 _ rfl) 0⟩ | exact ⟨cell_at hv 2, cell_at (hb 2 _ rfl) 0⟩ | exact ⟨cell_at hv 3, cell_at (hb 3 _ rfl) 0⟩))
  refine Calls.mono hn ?_
  rintro e w2 ⟨pb, b, tb, O, rfl, hA, hO, hu2⟩
  exact ⟨pb, rfl, b, tb, O, hA, fun k hk => Nat.le_trans hu.size (hO k hk), hu.trans hu2⟩

def nlB (c : UInt8) : Bool := !(c == 10)
theorem nlB_cases (c : UInt8) : ((c.toNat : Int) = 10 ∧ nlB c = false) ∨ (((c.toNat : Int) == 10) = false ∧ nlB c = true) := by
  by_cases h : c = 10
  · subst h; exact .inl ⟨rfl, rfl⟩
  · refine .inr ⟨?_, by simp [nlB, h]⟩
    rw [beq_eq_false_iff_ne]
    intro e
    exact h (UInt8.toNat_inj.1 (by show c.toNat = 10; omega))
set_option maxRecDepth 100000 in
set_option maxHeartbeats 4000000 in
theorem zz_nonl (s : ByteArray) (hs : s.size ≤ 1099511627776) (w : World) : Calls Tryz.prog 27 #[.string s] w fun e w' => e = .returned (.bool (s.data.toList.all nlB)) ∧ w = w' := by
  have hsz : (s.size : Int) ≤ 1099511627776 := by omega
  clear hs
  obtain ⟨r, hr⟩ : ∃ r, s.data.toList.all nlB = r := ⟨_, rfl⟩
  rw [hr]
  have HR := Lib.hid hr
  clear hr
  go_enter Tryz.func27, Tryz.ntmps27
  go_wp2_with fail
  go_loopg [3] (s.size) (fun k v3 wr => ∃ i : Nat, v3 = .int .i64 (i : Int) ∧ i + k = s.size ∧ w = wr ∧ ∀ x ∈ s.data.toList.take i, nlB x = true)
  case atStart => exact ⟨0, rfl, by omega, rfl, by simp⟩
  case round =>
    obtain ⟨i, rfl, hik, rfl, hall⟩ := hrel
    have HK := Lib.hid (And.intro hik hall)
    clear hik hall
    by_cases hlt : i < s.size
    · have hltI : (i : Int) < (s.size : Int) := by omega
      obtain ⟨c, hc⟩ : ∃ c, s[i]'hlt = c := ⟨_, rfl⟩
      have hcl : s.data.toList[i]'hlt = c := hc
      have hbad : nlB c = false → r = false := fun h => by
        rw [← HR.out, List.all_eq_false]
        exact ⟨c, hcl ▸ List.getElem_mem _, by simp [h]⟩
      have hgood : nlB c = true → ∀ x ∈ s.data.toList.take (i + 1), nlB x = true := fun h x hx => by
        rw [List.take_succ_eq_append_getElem hlt, List.mem_append, List.mem_singleton] at hx
        rcases hx with hx | hx
        · exact HK.out.2 x hx
        · rw [hx, hcl]; exact h
      have HB := Lib.hid (And.intro hbad hgood)
      have hcase := nlB_cases c
      clear hbad hgood hcl
      rcases hcase with ⟨h1, h2⟩ | ⟨h1, h2⟩
      all_goals
        have H2 := Lib.hid h2
        clear h2
        go_wp2_with fail
      all_goals
        first
          | (go_roundg (s.size - (i + 1))
             case measure => have := HK.out.1; omega
             case rel => exact ⟨i + 1, by go_num, by have := HK.out.1; omega, rfl, HB.out.2 H2.out⟩)
          | (go_ret
             rw [HB.out.1 H2.out]
             exact ⟨rfl, rfl⟩)
    · obtain rfl : i = s.size := by have := HK.out.1; omega
      go_wp2_with fail
      go_ret
      have hr : r = true := by
        rw [← HR.out, List.all_eq_true]
        intro x hx
        refine HK.out.2 x ?_
        rw [show s.size = s.data.toList.length from rfl, List.take_length]
        exact hx
      rw [hr]
      exact ⟨rfl, rfl⟩

theorem extract_end {s p : ByteArray} {l : List UInt8} (h : s.data.toList = l ++ p.data.toList) : s.size = l.length + p.size ∧ s.extract l.length s.size = p := by
  have hz : s.size = l.length + p.size := by
    rw [show s.size = s.data.toList.length from rfl, h, List.length_append]
    rfl
  refine ⟨hz, ByteArray.ext (Array.toList_inj.1 ?_)⟩
  rw [ByteArray.data_extract, Array.toList_extract, h]
  simp only [List.extract_eq_take_drop]
  rw [List.drop_left, List.take_of_length_le]
  rw [hz, show p.data.toList.length = p.size from rfl]
  omega

set_option maxRecDepth 100000 in
set_option maxHeartbeats 2000000 in
theorem zz_suffix {s p : ByteArray} {l : List UInt8} (h : s.data.toList = l ++ p.data.toList) (hs : s.size ≤ 1099511627776) (w : World) : Calls Tryz.prog 29 #[.string s, .string p] w fun e w' => e = .returned (.bool true) ∧ w = w' := by
  obtain ⟨h1, h2⟩ := extract_end h
  obtain ⟨n, hn⟩ : ∃ n, n = l.length := ⟨_, rfl⟩
  rw [← hn] at h1 h2
  have hszn : (s.size : Int) = (n : Int) + (p.size : Int) := by omega
  have hnI : (n : Int) ≤ 1099511627776 := by omega
  have hpI : (p.size : Int) ≤ 1099511627776 := by omega
  clear h hs h1 hn
  go_enter Tryz.func29, Tryz.ntmps29
  go_wp2_with fail
  go_ret
  exact ⟨rfl, rfl⟩
-- END OF THE HAND-WRITTEN PART

/-- The Printer's state. -/
def coVS (mi : Bool) (k lv ln ws : Nat) (wn sm : Bool) : VS := { k := k, bnl := false, swt := false, spr := false, mi := mi, si := true, fnl := false, ws := ws, wn := wn, mn := false, sm := sm, fl := !mi, ln := ln, ll := 0, lv := lv, inc := [], nb := false }
def coV0 (mi : Bool) (k : Nat) : VS := { k := k, bnl := false, swt := false, spr := false, mi := mi, si := true, fnl := false, ws := 2, wn := false, mn := false, sm := false, fl := !mi, ln := 0, ll := 0, lv := 0, inc := [], nb := false }
abbrev coC (mi : Bool) (k lv ln ws : Nat) (wn sm : Bool) : Array Value := #[.bool mi, .bool true, .bool false, .int .u64 (k : Int), .int .u64 (lv : Int), .int .u64 (ln : Int), .int .u8 (ws : Int), .bool wn, .bool false, .bool sm, .string ⟨#[]⟩]
theorem bb_neBW (k : Nat) : (bbS k).NeBW Tryz.prog := fun a w => by kernel_rfl

set_option maxRecDepth 100000 in
set_option maxHeartbeats 16000000 in
theorem zz_printer43 (mi : Bool) (k lv ln ws : Nat) (wn sm : Bool) {kb : Nat} {w : World} (hkb : w.heap[kb]? = some (.cells #[.slice none 0 0, .int .i64 0, .int .i8 0] 131 (0, 0))) :
    Calls Tryz.prog 55 #[.agg (coC mi k lv ln ws wn sm), .pointer (some ⟨kb, 0, none⟩)] w fun e w' => ∃ pb b tv wB F, e = .returned (.pointer (some ⟨pb, 0, none⟩)) ∧ PX (bbS kb) pb b tv ⟨wB, F⟩ w' [] (coVS mi k lv ln ws wn sm) ∧ w.heap.size ≤ pb ∧ (∀ j, F j → j = kb ∨ w.heap.size ≤ j) ∧ Upd (fun _ => False) w wB := by
  obtain ⟨w1, hw1⟩ : ∃ w1, w1 = w.alloc (.cells (coC mi k lv ln ws wn sm) 68) := ⟨_, rfl⟩
  have hz1 : w1.heap.size = w.heap.size + 1 := by rw [hw1]; simp
  have hx1 : w1.heap[w.heap.size]? = some (.cells (coC mi k lv ln ws wn sm) 68 (0, 0)) := by rw [hw1]; exact heap_alloc_new w _
  have hu1 : Upd (fun _ => False) w w1 := by rw [hw1]; exact (Upd.refl _ w).alloc _
  have hn := co_new mi true k w1.drew
  have HN := Lib.hid hn
  have x0 : w1.cell? ⟨w.heap.size, 0, none⟩ = some (.bool mi) := cell_at hx1 0
  have x1 : w1.cell? ⟨w.heap.size, 1, none⟩ = some (.bool true) := cell_at hx1 1
  have x2 : w1.cell? ⟨w.heap.size, 2, none⟩ = some (.bool false) := cell_at hx1 2
  have x3 : w1.cell? ⟨w.heap.size, 3, none⟩ = some (.int .u64 (k : Int)) := cell_at hx1 3
  have x4 : w1.cell? ⟨w.heap.size, 4, none⟩ = some (.int .u64 (lv : Int)) := cell_at hx1 4
  have x5 : w1.cell? ⟨w.heap.size, 5, none⟩ = some (.int .u64 (ln : Int)) := cell_at hx1 5
  have x6 : w1.cell? ⟨w.heap.size, 6, none⟩ = some (.int .u8 (ws : Int)) := cell_at hx1 6
  have x7 : w1.cell? ⟨w.heap.size, 7, none⟩ = some (.bool wn) := cell_at hx1 7
  have x8 : w1.cell? ⟨w.heap.size, 8, none⟩ = some (.bool false) := cell_at hx1 8
  have x9 : w1.cell? ⟨w.heap.size, 9, none⟩ = some (.bool sm) := cell_at hx1 9
  have x10 : w1.cell? ⟨w.heap.size, 10, none⟩ = some (.string ⟨#[]⟩) := cell_at hx1 10
  have HX1 := Lib.hid (And.intro hz1 (And.intro hx1 (And.intro hu1 (And.intro hkb (heap_lt hkb)))))
  have HS1 := Lib.hid (show ∀ W, Upd (fun _ => False) w1 W → W.cell? ⟨w.heap.size, 0, none⟩ = some (.bool mi) ∧ W.cell? ⟨w.heap.size, 1, none⟩ = some (.bool true) ∧ W.cell? ⟨w.heap.size, 2, none⟩ = some (.bool false) ∧ W.cell? ⟨w.heap.size, 3, none⟩ = some (.int .u64 (k : Int)) from fun W hW => ⟨hW.cell x0 fun h => h, hW.cell x1 fun h => h, hW.cell x2 fun h => h, hW.cell x3 fun h => h⟩)
  have hw1' := hw1
  clear hn hz1 hx1 hu1 hkb x4 x5 x6 x7 x8 x9 x10
  go_enter Tryz.func55, Tryz.ntmps55
  go_upto_region 1 with fail
  rw [← hw1']
  have HW1 := Lib.hid hw1'
  clear hw1' hw1
  refine wp_region_held_drew (S := fun W => W.cell? ⟨w.heap.size, 0, none⟩ = some (.bool mi) ∧ W.cell? ⟨w.heap.size, 1, none⟩ = some (.bool true) ∧ W.cell? ⟨w.heap.size, 2, none⟩ = some (.bool false) ∧ W.cell? ⟨w.heap.size, 3, none⟩ = some (.int .u64 (k : Int))) (by kernel_rfl) (HS1.out _ (Upd.refl _ w1).drew) (fun hHeld => ?_)
  refine wpAnyH_take (i := 0) (v := ?vp0) rfl (by kernel_rfl) (by kernel_rfl) (by kernel_rfl) (fun _ _ _ h => h) (Or.inl ⟨by rfl, ?hp0⟩) (by assumption) ?rp0
  case hp0 => (intro w hSw; (try dsimp only at hSw); go_simp; try with_reducible rfl)
  try simp only [List.getElem_toArray, List.getElem_cons_zero, Act.put, List.setIfInBounds_toArray, List.set_cons_zero, List.set_cons_succ]
  refine wpAnyH_take (i := 1) (v := ?vp1) rfl (by kernel_rfl) (by kernel_rfl) (by kernel_rfl) (fun _ _ _ h => h) (Or.inl ⟨by rfl, ?hp1⟩) (by assumption) ?rp1
  case hp1 => (intro w hSw; (try dsimp only at hSw); go_simp; try with_reducible rfl)
  try simp only [List.getElem_toArray, List.getElem_cons_zero, List.getElem_cons_succ, Act.put, List.setIfInBounds_toArray, List.set_cons_zero, List.set_cons_succ]
  refine wpAnyH_take (i := 3) (v := ?vp3) rfl (by kernel_rfl) (by kernel_rfl) (by kernel_rfl) (fun _ _ _ h => h) (Or.inl ⟨by rfl, ?hp3⟩) (by assumption) ?rp3
  case hp3 => (intro w hSw; (try dsimp only at hSw); go_simp; try with_reducible rfl)
  try simp only [List.getElem_toArray, List.getElem_cons_zero, List.getElem_cons_succ, Act.put, List.setIfInBounds_toArray, List.set_cons_zero, List.set_cons_succ]
  refine wpAnyH_take (i := 4) (v := ?vp4) rfl (by kernel_rfl) (by kernel_rfl) (by kernel_rfl) (fun _ _ _ h => h) (Or.inl ⟨by rfl, ?hp4⟩) (by assumption) ?rp4
  case hp4 => (intro w hSw; (try dsimp only at hSw); go_simp; try with_reducible rfl)
  try simp only [List.getElem_toArray, List.getElem_cons_zero, List.getElem_cons_succ, Act.put, List.setIfInBounds_toArray, List.set_cons_zero, List.set_cons_succ]
  refine wpAnyH_take (i := 6) (v := ?vp6) rfl (by kernel_rfl) (by kernel_rfl) (by kernel_rfl) (fun _ _ _ h => h) (Or.inl ⟨by rfl, ?hp6⟩) (by assumption) ?rp6
  case hp6 => (intro w hSw; (try dsimp only at hSw); go_simp; try with_reducible rfl)
  try simp only [List.getElem_toArray, List.getElem_cons_zero, List.getElem_cons_succ, Act.put, List.setIfInBounds_toArray, List.set_cons_zero, List.set_cons_succ]
  refine wpAnyH_take (i := 7) (v := ?vp7) rfl (by kernel_rfl) (by kernel_rfl) (by kernel_rfl) (fun _ _ _ h => h) (Or.inl ⟨by rfl, ?hp7⟩) (by assumption) ?rp7
  case hp7 => (intro w hSw; (try dsimp only at hSw); go_simp; try with_reducible rfl)
  try simp only [List.getElem_toArray, List.getElem_cons_zero, List.getElem_cons_succ, Act.put, List.setIfInBounds_toArray, List.set_cons_zero, List.set_cons_succ]
  refine wpAnyH_take (i := 9) (v := ?vp9) rfl (by kernel_rfl) (by kernel_rfl) (by kernel_rfl) (fun _ _ _ h => h) (Or.inl ⟨by rfl, ?hp9⟩) (by assumption) ?rp9
  case hp9 => (intro w hSw; (try dsimp only at hSw); go_simp; try with_reducible rfl)
  try simp only [List.getElem_toArray, List.getElem_cons_zero, List.getElem_cons_succ, Act.put, List.setIfInBounds_toArray, List.set_cons_zero, List.set_cons_succ]
  refine wpAnyH_take (i := 10) (v := ?vp10) rfl (by kernel_rfl) (by kernel_rfl) (by kernel_rfl) (fun _ _ _ h => h) (Or.inl ⟨by rfl, ?hp10⟩) (by assumption) ?rp10
  case hp10 => (intro w hSw; (try dsimp only at hSw); go_simp; try with_reducible rfl)
  try simp only [List.getElem_toArray, List.getElem_cons_zero, List.getElem_cons_succ, Act.put, List.setIfInBounds_toArray, List.set_cons_zero, List.set_cons_succ]
  refine wpAnyH_ready (rs := [2]) (by kernel_rfl) (by simp) ?_
  refine AllReadyH.cons rfl (fun K hK => ?_) AllReadyH.nil
  go_simp
  go_wp2_with (go_at_call 10; refine (mk_mi _ _).mono ?_; rintro e w2 ⟨rfl, rfl⟩)
  refine hK.out _ _ (HS1.out _ (by first | exact (Upd.refl _ w1).drew.alloc _ | exact ((Upd.refl _ w1).drew.alloc _).alloc _ | exact (((Upd.refl _ w1).drew.alloc _).alloc _).alloc _ | exact ((((Upd.refl _ w1).drew.alloc _).alloc _).alloc _).alloc _ | exact (((((Upd.refl _ w1).drew.alloc _).alloc _).alloc _).alloc _).alloc _)) (fun hS => ?_)
  clear hK K
  try simp only [List.getElem_toArray, List.getElem_cons_zero, List.getElem_cons_succ, Act.put, List.setIfInBounds_toArray, List.set_cons_zero, List.set_cons_succ]
  refine wpAnyH_ready (rs := [5]) (by kernel_rfl) (by simp) ?_
  refine AllReadyH.cons rfl (fun K hK => ?_) AllReadyH.nil
  go_simp
  go_wp2_with (go_at_call 11; refine (mk_si _ _).mono ?_; rintro e w3 ⟨rfl, rfl⟩)
  refine hK.out _ _ (HS1.out _ (by first | exact (Upd.refl _ w1).drew.alloc _ | exact ((Upd.refl _ w1).drew.alloc _).alloc _ | exact (((Upd.refl _ w1).drew.alloc _).alloc _).alloc _ | exact ((((Upd.refl _ w1).drew.alloc _).alloc _).alloc _).alloc _ | exact (((((Upd.refl _ w1).drew.alloc _).alloc _).alloc _).alloc _).alloc _)) (fun hS => ?_)
  clear hK K
  try simp only [List.getElem_toArray, List.getElem_cons_zero, List.getElem_cons_succ, Act.put, List.setIfInBounds_toArray, List.set_cons_zero, List.set_cons_succ]
  refine wpAnyH_ready (rs := [8]) (by kernel_rfl) (by simp) ?_
  refine AllReadyH.cons rfl (fun K hK => ?_) AllReadyH.nil
  go_simp
  go_wp2_with (go_at_call 9; refine (mk_in _ _).mono ?_; rintro e w4 ⟨rfl, rfl⟩)
  refine hK.out _ _ (HS1.out _ (by first | exact (Upd.refl _ w1).drew.alloc _ | exact ((Upd.refl _ w1).drew.alloc _).alloc _ | exact (((Upd.refl _ w1).drew.alloc _).alloc _).alloc _ | exact ((((Upd.refl _ w1).drew.alloc _).alloc _).alloc _).alloc _ | exact (((((Upd.refl _ w1).drew.alloc _).alloc _).alloc _).alloc _).alloc _)) (fun hS => ?_)
  clear hK K
  try simp only [List.getElem_toArray, List.getElem_cons_zero, List.getElem_cons_succ, Act.put, List.setIfInBounds_toArray, List.set_cons_zero, List.set_cons_succ]
  refine wpAnyH_ready (rs := [11]) (by kernel_rfl) (by simp) ?_
  refine AllReadyH.cons rfl (fun K hK => ?_) AllReadyH.nil
  go_simp
  go_wp2_with (go_at_call 127; refine (mk_kp _ _).mono ?_; rintro e w5 ⟨rfl, rfl⟩)
  refine hK.out _ _ (HS1.out _ (by first | exact (Upd.refl _ w1).drew.alloc _ | exact ((Upd.refl _ w1).drew.alloc _).alloc _ | exact (((Upd.refl _ w1).drew.alloc _).alloc _).alloc _ | exact ((((Upd.refl _ w1).drew.alloc _).alloc _).alloc _).alloc _ | exact (((((Upd.refl _ w1).drew.alloc _).alloc _).alloc _).alloc _).alloc _)) (fun hS => ?_)
  clear hK K
  try simp only [List.getElem_toArray, List.getElem_cons_zero, List.getElem_cons_succ, Act.put, List.setIfInBounds_toArray, List.set_cons_zero, List.set_cons_succ]
  refine wpAnyH_ready (rs := [12]) (by kernel_rfl) (by simp) ?_
  refine AllReadyH.cons rfl (fun K hK => ?_) AllReadyH.nil
  rw [if_pos (by rfl)]
  go_simp
  refine hK.out _ _ (HS1.out _ (by first | exact (Upd.refl _ w1).drew.alloc _ | exact ((Upd.refl _ w1).drew.alloc _).alloc _ | exact (((Upd.refl _ w1).drew.alloc _).alloc _).alloc _ | exact ((((Upd.refl _ w1).drew.alloc _).alloc _).alloc _).alloc _ | exact (((((Upd.refl _ w1).drew.alloc _).alloc _).alloc _).alloc _).alloc _)) (fun hS => ?_)
  clear hK K
  try simp only [List.getElem_toArray, List.getElem_cons_zero, List.getElem_cons_succ, Act.put, List.setIfInBounds_toArray, List.set_cons_zero, List.set_cons_succ]
  refine wpAnyH_ready (rs := [13]) (by kernel_rfl) (by simp) ?_
  refine AllReadyH.cons rfl (fun K hK => ?_) AllReadyH.nil
  go_simp
  go_wp2_with (go_at_call 8; refine HN.out.mono ?_; rintro e w6 ⟨pb, rfl, b, tb, O, hA, hO, hu6⟩; have HA := Lib.hid (And.intro hA (And.intro hO hu6)); clear hA hO hu6)
  refine hK.out _ _ (HS1.out _ ((Upd.refl _ w1).drew.trans HA.out.2.2)) (fun hS => ?_)
  clear hK K
  try simp only [List.getElem_toArray, List.getElem_cons_zero, List.getElem_cons_succ, Act.put, List.setIfInBounds_toArray, List.set_cons_zero, List.set_cons_succ]
  refine wpAnyH_take (i := 14) (v := ?vp14) rfl (by kernel_rfl) (by kernel_rfl) (by kernel_rfl) (fun _ _ _ h => h) (Or.inl ⟨by rfl, ?hp14⟩) (by assumption) ?rp14
  case hp14 => (intro w hSw; (try dsimp only at hSw); go_simp; try with_reducible rfl)
  try simp only [List.getElem_toArray, List.getElem_cons_zero, List.getElem_cons_succ, Act.put, List.setIfInBounds_toArray, List.set_cons_zero, List.set_cons_succ]
  refine wpAnyH_done (by kernel_rfl) ?_ _
  have hA := HA.out
  clear x0 x1 x2 x3 HS1 HN
  obtain ⟨hA, hO, hu6⟩ := hA
  clear HA
  obtain ⟨g, G, hI, hO'⟩ := hA
  obtain rfl : O = PrOwn pb b g tb G := funext fun k => propext (hO' k)
  obtain ⟨hc, hbuf, ht, hl0, hd⟩ := hI
  have hsz1 : w1.heap.size = w.heap.size + 1 := HX1.out.1
  have hu6 : Upd (fun _ => False) w1 w6 := (Upd.refl (fun _ => False) w1).drew.trans hu6
  have hux : Upd (fun _ => False) w w6 := HX1.out.2.2.1.trans hu6
  have hcf : w6.heap[w.heap.size]? = some (.cells (coC mi k lv ln ws wn sm) 68 (0, 0)) := hu6.heap HX1.out.2.1 fun h => h
  have hkb : w6.heap[kb]? = some (.cells #[.slice none 0 0, .int .i64 0, .int .i8 0] 131 (0, 0)) := hux.heap HX1.out.2.2.2.1 fun h => h
  have hkl : kb < w.heap.size := HX1.out.2.2.2.2
  have hge : ∀ k, PrOwn pb b g tb G k → w.heap.size + 1 ≤ k := fun k hk => by have h0 := hO k hk; have h1 : w1.drew.heap.size = w1.heap.size := rfl; omega
  obtain ⟨Q7, HQ7, HC7⟩ := callsVar (pe_reset hc hl0)
  have HD := Lib.hid (And.intro hbuf (And.intro hd (And.intro hge (And.intro hux (And.intro hcf (And.intro hkb hkl))))))
  clear hc hbuf ht hl0 hd hO hO' hu6 hux hcf hkb hge hkl hsz1
  go_wp2_with (go_at_call 34; refine HC7.out.mono ?_)
  rintro e w7 hq
  obtain ⟨rfl, hp7, hu7⟩ := HQ7.out e w7 hq
  clear hq
  have hb7 : BufRaw b g w7 := HD.out.1.stable hu7 (fun e => HD.out.2.1.1 e.symm) (fun e => HD.out.2.1.2.1 e.symm)
  have hk7 : bbI kb w7 (fun j => j = kb) [] := ⟨_, _, hu7.heap HD.out.2.2.2.2.2.1 (fun e => by have := HD.out.2.2.1 pb (.inl rfl); have := HD.out.2.2.2.2.2.2; omega), Row.nil w7, by simp [Value.ownBlock], fun j => by simp [Value.ownBlock]⟩
  have hlow : ∀ k, PrOwn pb b g tb G k → ¬ k = kb := fun k hk e => by have := HD.out.2.2.1 k hk; have := HD.out.2.2.2.2.2.2; omega
  obtain ⟨Q8, HQ8, HC8⟩ := callsVar (bw_rsQ (bb_law kb) (bb_neBW kb) hp7 hb7 hk7 (hlow pb (.inl rfl)) (hlow b (.inr (.inl rfl))) (hlow g (.inr (.inr (.inl rfl)))) HD.out.2.1.1 HD.out.2.1.2.1)
  have d0 : w7.cell? ⟨pb, 0, none⟩ = some (.iface 71 (.pointer (some ⟨b, 0, none⟩))) := hp7.at 0
  have hm1 := bw_meth_rs b
  have ha1 := bw_ahead_rs b
  have HU7 := Lib.hid hu7
  clear hp7 hb7 hk7 hlow hu7 HC7
  go_wp2_with (go_at_call 240; refine HC8.out.mono ?_)
  rintro e w8 hq
  obtain ⟨rfl, hS8, hu8⟩ := HQ8.out e w8 hq
  clear hq
  have hX8 : PX (bbS kb) pb b (.pointer (some ⟨tb, 0, none⟩)) ⟨w8, fun j => j = b ∨ j = g ∨ j = kb⟩ w8 [] (coV0 mi k) := (PSt.pw hS8).px (PS.start_ps (s := co_PS mi true k) ⟨rfl, rfl, rfl, rfl, rfl⟩ 0) rfl ⟨rfl, rfl⟩
  have hupb := HD.out.2.2.1 pb (.inl rfl)
  have hub := HD.out.2.2.1 b (.inr (.inl rfl))
  have hug := HD.out.2.2.1 g (.inr (.inr (.inl rfl)))
  have hu18 : Upd (fun _ => False) w w8 := (HD.out.2.2.2.1.trans' HU7.out fun k hk => .inr (by omega)).trans' hu8 fun k hk => .inr (by rcases hk with h | h | h <;> omega)
  have hcf : (⟨w8, fun j => j = b ∨ j = g ∨ j = kb⟩ : Base).At pb w.heap.size (.cells (coC mi k lv ln ws wn sm) 68 (0, 0)) := ⟨hu8.heap (HU7.out.heap HD.out.2.2.2.2.1 (by omega)) (by rintro (h | h | h) <;> omega), by omega, by
    have := HD.out.2.2.2.2.2.2
    rintro (h | h | h) <;> omega⟩
  have HX8 := Lib.hid hX8
  have HCf := Lib.hid hcf
  have HU18 := Lib.hid (And.intro hu18 (And.intro hupb (And.intro hub hug)))
  have HWs := Lib.hid (v_ws (bb_tok kb) (hX8.quiet (bb_tok kb) (Upd.refl (fun _ => False) w8).drew) ⟨#[]⟩ (fun _ _ => rfl) (by unfold LIM; decide))
  have hmw := bw_meth_ws b
  have haw := bw_ahead_ws b
  clear hX8 hcf hu18 hupb hub hug hS8 hu8 HC8
  go_wp2_with fail
  refine wp_region_held_drew (S := fun W => W.cell? ⟨pb, 0, none⟩ = some (.iface 71 (.pointer (some ⟨b, 0, none⟩))) ∧ W.cell? ⟨w.heap.size, 10, none⟩ = some (.string ⟨#[]⟩)) (by kernel_rfl) ⟨HX8.out.c0, cell_at (HX8.out.at HCf.out) 10⟩ (fun hHeld => ?_)
  refine wpAnyH_take (i := 0) (v := ?vq0) rfl (by kernel_rfl) (by kernel_rfl) (by kernel_rfl) (fun _ _ _ h => h) (Or.inl ⟨by rfl, ?hq0⟩) (by assumption) ?rq0
  case hq0 => (intro w hSw; (try dsimp only at hSw); go_simp; try with_reducible rfl)
  try simp only [List.getElem_toArray, List.getElem_cons_zero, Act.put, List.setIfInBounds_toArray, List.set_cons_zero, List.set_cons_succ]
  refine wpAnyH_take (i := 1) (v := ?vq1) rfl (by kernel_rfl) (by kernel_rfl) (by kernel_rfl) (fun _ _ _ h => h) (Or.inl ⟨by rfl, ?hq1⟩) (by assumption) ?rq1
  case hq1 => (intro w hSw; (try dsimp only at hSw); go_simp; try with_reducible rfl)
  try simp only [List.getElem_toArray, List.getElem_cons_zero, List.getElem_cons_succ, Act.put, List.setIfInBounds_toArray, List.set_cons_zero, List.set_cons_succ]
  refine wpAnyH_take (i := 2) (v := ?vq2) rfl (by kernel_rfl) (by kernel_rfl) (by kernel_rfl) (fun _ _ _ h => h) (Or.inl ⟨by rfl, ?hq2⟩) (by assumption) ?rq2
  case hq2 => (intro w hSw; (try dsimp only at hSw); go_simp; try with_reducible rfl)
  try simp only [List.getElem_toArray, List.getElem_cons_zero, List.getElem_cons_succ, Act.put, List.setIfInBounds_toArray, List.set_cons_zero, List.set_cons_succ]
  refine wpAnyH_take (i := 3) (v := ?vq3) rfl (by kernel_rfl) (by kernel_rfl) (by kernel_rfl) (fun _ _ _ h => h) (Or.inl ⟨by rfl, ?hq3⟩) (by assumption) ?rq3
  case hq3 => (intro w hSw; (try dsimp only at hSw); go_simp; try with_reducible rfl)
  try simp only [List.getElem_toArray, List.getElem_cons_zero, List.getElem_cons_succ, Act.put, List.setIfInBounds_toArray, List.set_cons_zero, List.set_cons_succ]
  refine wpAnyH_take (i := 4) (v := ?vq4) rfl (by kernel_rfl) (by kernel_rfl) (by kernel_rfl) (fun _ _ _ h => h) (Or.inl ⟨by rfl, ?hq4⟩) (by assumption) ?rq4
  case hq4 => (intro w hSw; (try dsimp only at hSw); go_simp; try with_reducible rfl)
  try simp only [List.getElem_toArray, List.getElem_cons_zero, List.getElem_cons_succ, Act.put, List.setIfInBounds_toArray, List.set_cons_zero, List.set_cons_succ]
  refine wpAnyH_take (i := 5) (v := ?vq5) rfl (by kernel_rfl) (by kernel_rfl) (by kernel_rfl) (fun _ _ _ h => h) (Or.inl ⟨by rfl, ?hq5⟩) (by assumption) ?rq5
  case hq5 => (intro w hSw; (try dsimp only at hSw); go_simp; try with_reducible rfl)
  try simp only [List.getElem_toArray, List.getElem_cons_zero, List.getElem_cons_succ, Act.put, List.setIfInBounds_toArray, List.set_cons_zero, List.set_cons_succ]
  refine wpAnyH_ready (rs := [6]) (by kernel_rfl) (by simp) ?_
  refine AllReadyH.cons rfl (fun K hK => ?_) AllReadyH.nil
  go_simp
  go_wp2_with (go_at_call 243; refine HWs.out.mono ?_; rintro e w9 ⟨rfl, h9⟩; have HX9 := Lib.hid h9; clear h9 HWs)
  refine hK.out _ _ ⟨HX9.out.c0, cell_at (HX9.out.at HCf.out) 10⟩ (fun hS => ?_)
  clear hK K
  try simp only [List.getElem_toArray, List.getElem_cons_zero, List.getElem_cons_succ, Act.put, List.setIfInBounds_toArray, List.set_cons_zero, List.set_cons_succ]
  refine wpAnyH_done (by kernel_rfl) ?_ _
  have hX9 := HX9.out
  have hX9 : PX (bbS kb) pb b (.pointer (some ⟨tb, 0, none⟩)) ⟨w8, fun j => j = b ∨ j = g ∨ j = kb⟩ w9 [] (coV0 mi k) := hX9
  have hcfg := hX9.at HCf.out
  have y4 : w9.cell? ⟨w.heap.size, 4, none⟩ = some (.int .u64 (lv : Int)) := cell_at hcfg 4
  have y5 : w9.cell? ⟨w.heap.size, 5, none⟩ = some (.int .u64 (ln : Int)) := cell_at hcfg 5
  have y6 : w9.cell? ⟨w.heap.size, 6, none⟩ = some (.int .u8 (ws : Int)) := cell_at hcfg 6
  have y7 : w9.cell? ⟨w.heap.size, 7, none⟩ = some (.bool wn) := cell_at hcfg 7
  have y8 : w9.cell? ⟨w.heap.size, 8, none⟩ = some (.bool false) := cell_at hcfg 8
  have y9 : w9.cell? ⟨w.heap.size, 9, none⟩ = some (.bool sm) := cell_at hcfg 9
  have p21 := hX9.c21
  have g21 := hX9.fz 21
  have p19 := hX9.c19
  have g19 := hX9.fz 19
  have p13 := hX9.c13
  have g13 := hX9.fz 13
  have p14 := hX9.c14
  have g14 := hX9.fz 14
  have p15 := hX9.c15
  have g15 := hX9.fz 15
  have p16 := hX9.c16
  have g16 := hX9.fz 16
  have hne : ¬ w.heap.size = pb := by have := HU18.out.2.1; omega
  have hne2 : ¬ pb = w.heap.size := fun e => hne e.symm
  have hY0 := hX9.setc (bb_tok kb) (i := 21) (val := .int .u64 (lv : Int)) { coV0 mi k with lv := lv } (fun _ => rfl) rfl
  have hY1 := hY0.setc (bb_tok kb) (i := 19) (val := .int .u64 (ln : Int)) { coV0 mi k with lv := lv, ln := ln } (fun _ => rfl) rfl
  have hY2 := hY1.setc (bb_tok kb) (i := 13) (val := .int .u8 (ws : Int)) { coV0 mi k with lv := lv, ln := ln, ws := ws } (fun _ => rfl) rfl
  have hY3 := hY2.setc (bb_tok kb) (i := 14) (val := .bool wn) { coV0 mi k with lv := lv, ln := ln, ws := ws, wn := wn } (fun _ => rfl) rfl
  have hY4 := hY3.setc (bb_tok kb) (i := 15) (val := .bool false) { coV0 mi k with lv := lv, ln := ln, ws := ws, wn := wn, mn := false } (fun _ => rfl) rfl
  have hY5 := hY4.setc (bb_tok kb) (i := 16) (val := .bool sm) { coV0 mi k with lv := lv, ln := ln, ws := ws, wn := wn, mn := false, sm := sm } (fun _ => rfl) rfl
  have hE : PX (bbS kb) pb b (.pointer (some ⟨tb, 0, none⟩)) ⟨w8, fun j => j = b ∨ j = g ∨ j = kb⟩ _ [] (coVS mi k lv ln ws wn sm) := hY5
  have HE := Lib.hid hE
  clear hE hY0 hY1 hY2 hY3 hY4 hY5 hX9 hcfg
  go_wp2_with fail
  go_ret
  exact ⟨pb, b, .pointer (some ⟨tb, 0, none⟩), w8, fun j => j = b ∨ j = g ∨ j = kb, rfl, HE.out, by have := HU18.out.2.1; omega, fun j hj => by
    rcases hj with h | h | h
    · exact .inr (by have := HU18.out.2.2.1; omega)
    · exact .inr (by have := HU18.out.2.2.2; omega)
    · exact .inl h, HU18.out.1⟩

set_option maxRecDepth 100000 in
set_option maxHeartbeats 2000000 in
theorem zz_pos43 (L : Nat) (h : L ≤ 262143) (w : World) : Calls Tryz.prog 57 #[.int .u64 (L : Int), .int .u64 1] w fun e w' => e = .returned (posV 0 (lcP L)) ∧ Upd (fun _ => False) w w' := by
  have e : lcP L = L * 16384 + 1 := by unfold lcP clampL; rw [if_neg (by omega)]
  rw [e]
  have hLI : (L : Int) ≤ 262143 := by omega
  have hwl : IntKind.u32.wrap (L : Int) = (L : Int) := by rw [IntKind.wrap_u32]; omega
  have hb : bits .or .u32 ((L : Int) * 16384) 1 = ((L * 16384 + 1 : Nat) : Int) := by
    have h1 := u32_or_nat (L * 16384) 1 (by omega) (by omega)
    rw [nat_join 14 (L * 16384) 1 (by omega) (by omega)] at h1
    rw [← h1]
    simp
  clear h e
  go_enter Tryz.func57, Tryz.ntmps57
  go_wp2
  refine bodyPost_ret (results_cell_row rfl _ _ w.heap.size _ _ (0, 0) _ rfl (heap_alloc_new w _) Tryz.underlying40 rfl (by kernel_rfl)) rfl ?_
  exact ⟨by simp [posV], (Upd.refl _ w).alloc _⟩

/-- The state as it is read. -/
abbrev coS (out : ByteArray) (v : VS) : Array Value := #[.string out, .int .u64 (v.ln : Int), .int .u64 (v.ll : Int), .int .u8 (v.ws : Int), .bool v.wn, .bool v.mn]
end Go.Proofs.YtmdkpihlhdjjaaaGreatFmt
