/-
  n010_157's helpers over texts: zzCount, zzHasTab, zzSpace3.
  bufio.Writer's WriteByte entered as a deferred call.
  n010_157.FnFlushComments*: the plain law: stripping the white space at the end, by bytes and as the library goes. No program in sight.
-/
import Derived.Test.YtmdkpihlhdjjaaaGreatFmtKMaX
import Derived.Deep.LoopGhost
import Derived.Test.YtmdkpihlhdjjaaaGreatFmtKMbX
import Derived.Defers
import Derived.Lib.TrimUEq
import Derived.Lib.SpaceUEq
import Derived.Shelf.Strings.FuncGrows
namespace Go.Proofs.YtmdkpihlhdjjaaaGreatFmt
open Go.RowKit

set_option maxRecDepth 100000 in
theorem fc_count (ao bo : Option Addr) (n c m d : Nat) (w : World) :
    Calls Tryz.prog 19 #[.slice ao n c, .slice bo m d] w fun e w' => e = .returned (.int .i64 ((min n m : Nat) : Int)) ∧ w = w' := by
  by_cases h : m < n
  · have hI : (m : Int) < (n : Int) := by omega
    have e : min n m = m := by omega
    rw [e]
    clear e
    go_enter Tryz.func19, Tryz.ntmps19
    go_wp2_with fail
    go_ret
    exact ⟨rfl, rfl⟩
  · have hI : ¬ (m : Int) < (n : Int) := by omega
    have e : min n m = n := by omega
    rw [e]
    clear e
    go_enter Tryz.func19, Tryz.ntmps19
    go_wp2_with fail
    go_ret
    exact ⟨rfl, rfl⟩

set_option maxRecDepth 100000 in
set_option maxHeartbeats 4000000 in
theorem fc_hasTab (s : ByteArray) (hs : s.size ≤ 1099511627776) (w : World) :
    Calls Tryz.prog 25 #[.string s] w fun e w' => e = .returned (.bool (decide (9 ∈ s.data.toList))) ∧ w = w' := by
  have hsz : (s.size : Int) ≤ 1099511627776 := by omega
  clear hs
  obtain ⟨r, hr⟩ : ∃ r, decide (9 ∈ s.data.toList) = r := ⟨_, rfl⟩
  rw [hr]
  have HR := Lib.hid hr
  clear hr
  go_enter Tryz.func25, Tryz.ntmps25
  go_wp2_with fail
  go_loopg [3] (s.size) (fun k v3 wr => ∃ i : Nat, v3 = .int .i64 (i : Int) ∧ i + k = s.size ∧ w = wr ∧ ∀ x ∈ s.data.toList.take i, x ≠ 9)
  case atStart => exact ⟨0, rfl, by omega, rfl, by simp⟩
  case round =>
    obtain ⟨i, rfl, hik, rfl, hall⟩ := hrel
    have HK := Lib.hid (And.intro hik hall)
    clear hik hall
    by_cases hlt : i < s.size
    · have hltI : (i : Int) < (s.size : Int) := by omega
      obtain ⟨c, hc⟩ : ∃ c, s[i]'hlt = c := ⟨_, rfl⟩
      have hcl : s.data.toList[i]'hlt = c := hc
      by_cases h9 : c = 9
      · have HB : RowKit.Hid (r = true) := Lib.hid (by
          rw [← HR.out, decide_eq_true_eq]
          exact h9 ▸ hcl ▸ List.getElem_mem _)
        have h9I : (c.toNat : Int) = 9 := by rw [h9]; rfl
        clear hcl h9
        go_wp2_with fail
        go_ret
        rw [HB.out]
        exact ⟨rfl, rfl⟩
      · have h9I : ((c.toNat : Int) == 9) = false := by
          rw [beq_eq_false_iff_ne]
          intro e
          exact h9 (UInt8.toNat_inj.1 (by show c.toNat = 9; omega))
        have HB : RowKit.Hid (∀ x ∈ s.data.toList.take (i + 1), x ≠ 9) := Lib.hid fun x hx => by
          rw [List.take_succ_eq_append_getElem hlt, List.mem_append, List.mem_singleton] at hx
          rcases hx with hx | hx
          · exact HK.out.2 x hx
          · rw [hx, hcl]; exact h9
        clear hcl h9
        go_wp2_with fail
        go_roundg (s.size - (i + 1))
        case measure => have := HK.out.1; omega
        case rel => exact ⟨i + 1, by go_num, by have := HK.out.1; omega, rfl, HB.out⟩
    · obtain rfl : i = s.size := by have := HK.out.1; omega
      go_wp2_with fail
      go_ret
      have hr : r = false := by
        rw [← HR.out, decide_eq_false_iff_not]
        intro h
        refine HK.out.2 9 ?_ rfl
        rw [show s.size = s.data.toList.length from rfl, List.take_length]
        exact h
      rw [hr]
      exact ⟨rfl, rfl⟩

/-- Three bytes that are the encoding of a white space. -/
def sp3 (x y z : UInt8) : Bool := (x == 0xE1 && y == 0x9A && z == 0x80) || (x == 0xE2 && y == 0x80 && ((decide (0x80 ≤ z.toNat) && decide (z.toNat ≤ 0x8A)) || z == 0xA8 || z == 0xA9 || z == 0xAF)) || (x == 0xE2 && y == 0x81 && z == 0x9F) || (x == 0xE3 && y == 0x80 && z == 0x80)
theorem ne_int {c d : UInt8} (h : c ≠ d) : ((c.toNat : Int) == (d.toNat : Int)) = false := by
  rw [beq_eq_false_iff_ne]
  intro e
  exact h (UInt8.toNat_inj.1 (by omega))

/-! Ways through zzSpace3 at numbers. -/
set_option maxRecDepth 100000 in
theorem s3_0 (w : World) : Calls Tryz.prog 54 #[.int .u8 225, .int .u8 154, .int .u8 128] w fun e w' => e = .returned (.bool true) ∧ w = w' := by
  go_enter Tryz.func54, Tryz.ntmps54
  go_wp2_with fail
  go_ret
  exact ⟨rfl, rfl⟩
set_option maxRecDepth 100000 in
theorem s3_1 (z : Int) (hz128 : (z == 128) = false) (w : World) : Calls Tryz.prog 54 #[.int .u8 225, .int .u8 154, .int .u8 z] w fun e w' => e = .returned (.bool false) ∧ w = w' := by
  go_enter Tryz.func54, Tryz.ntmps54
  go_wp2_with fail
  go_ret
  exact ⟨rfl, rfl⟩
set_option maxRecDepth 100000 in
theorem s3_2 (y z : Int) (hy154 : (y == 154) = false) (w : World) : Calls Tryz.prog 54 #[.int .u8 225, .int .u8 y, .int .u8 z] w fun e w' => e = .returned (.bool false) ∧ w = w' := by
  go_enter Tryz.func54, Tryz.ntmps54
  go_wp2_with fail
  go_ret
  exact ⟨rfl, rfl⟩
set_option maxRecDepth 100000 in
theorem s3_3 (z : Int) (h1 : 128 ≤ z) (h2 : z ≤ 138) (w : World) : Calls Tryz.prog 54 #[.int .u8 226, .int .u8 128, .int .u8 z] w fun e w' => e = .returned (.bool true) ∧ w = w' := by
  go_enter Tryz.func54, Tryz.ntmps54
  go_wp2_with fail
  go_ret
  exact ⟨rfl, rfl⟩
set_option maxRecDepth 100000 in
theorem s3_4 (w : World) : Calls Tryz.prog 54 #[.int .u8 226, .int .u8 128, .int .u8 168] w fun e w' => e = .returned (.bool true) ∧ w = w' := by
  go_enter Tryz.func54, Tryz.ntmps54
  go_wp2_with fail
  go_ret
  exact ⟨rfl, rfl⟩
set_option maxRecDepth 100000 in
theorem s3_5 (w : World) : Calls Tryz.prog 54 #[.int .u8 226, .int .u8 128, .int .u8 169] w fun e w' => e = .returned (.bool true) ∧ w = w' := by
  go_enter Tryz.func54, Tryz.ntmps54
  go_wp2_with fail
  go_ret
  exact ⟨rfl, rfl⟩
set_option maxRecDepth 100000 in
theorem s3_6 (w : World) : Calls Tryz.prog 54 #[.int .u8 226, .int .u8 128, .int .u8 175] w fun e w' => e = .returned (.bool true) ∧ w = w' := by
  go_enter Tryz.func54, Tryz.ntmps54
  go_wp2_with fail
  go_ret
  exact ⟨rfl, rfl⟩
set_option maxRecDepth 100000 in
theorem s3_7 (z : Int) (h1 : z < 128) (hz168 : (z == 168) = false) (hz169 : (z == 169) = false) (hz175 : (z == 175) = false) (w : World) : Calls Tryz.prog 54 #[.int .u8 226, .int .u8 128, .int .u8 z] w fun e w' => e = .returned (.bool false) ∧ w = w' := by
  go_enter Tryz.func54, Tryz.ntmps54
  go_wp2_with fail
  go_ret
  exact ⟨rfl, rfl⟩
set_option maxRecDepth 100000 in
theorem s3_8 (z : Int) (h1 : 138 < z) (hz168 : (z == 168) = false) (hz169 : (z == 169) = false) (hz175 : (z == 175) = false) (w : World) : Calls Tryz.prog 54 #[.int .u8 226, .int .u8 128, .int .u8 z] w fun e w' => e = .returned (.bool false) ∧ w = w' := by
  go_enter Tryz.func54, Tryz.ntmps54
  go_wp2_with fail
  go_ret
  exact ⟨rfl, rfl⟩
set_option maxRecDepth 100000 in
theorem s3_9 (w : World) : Calls Tryz.prog 54 #[.int .u8 226, .int .u8 129, .int .u8 159] w fun e w' => e = .returned (.bool true) ∧ w = w' := by
  go_enter Tryz.func54, Tryz.ntmps54
  go_wp2_with fail
  go_ret
  exact ⟨rfl, rfl⟩
set_option maxRecDepth 100000 in
theorem s3_10 (z : Int) (hz159 : (z == 159) = false) (w : World) : Calls Tryz.prog 54 #[.int .u8 226, .int .u8 129, .int .u8 z] w fun e w' => e = .returned (.bool false) ∧ w = w' := by
  go_enter Tryz.func54, Tryz.ntmps54
  go_wp2_with fail
  go_ret
  exact ⟨rfl, rfl⟩
set_option maxRecDepth 100000 in
theorem s3_11 (y z : Int) (hy128 : (y == 128) = false) (hy129 : (y == 129) = false) (w : World) : Calls Tryz.prog 54 #[.int .u8 226, .int .u8 y, .int .u8 z] w fun e w' => e = .returned (.bool false) ∧ w = w' := by
  go_enter Tryz.func54, Tryz.ntmps54
  go_wp2_with fail
  go_ret
  exact ⟨rfl, rfl⟩
set_option maxRecDepth 100000 in
theorem s3_12 (w : World) : Calls Tryz.prog 54 #[.int .u8 227, .int .u8 128, .int .u8 128] w fun e w' => e = .returned (.bool true) ∧ w = w' := by
  go_enter Tryz.func54, Tryz.ntmps54
  go_wp2_with fail
  go_ret
  exact ⟨rfl, rfl⟩
set_option maxRecDepth 100000 in
theorem s3_13 (z : Int) (hz128 : (z == 128) = false) (w : World) : Calls Tryz.prog 54 #[.int .u8 227, .int .u8 128, .int .u8 z] w fun e w' => e = .returned (.bool false) ∧ w = w' := by
  go_enter Tryz.func54, Tryz.ntmps54
  go_wp2_with fail
  go_ret
  exact ⟨rfl, rfl⟩
set_option maxRecDepth 100000 in
theorem s3_14 (y z : Int) (hy128 : (y == 128) = false) (w : World) : Calls Tryz.prog 54 #[.int .u8 227, .int .u8 y, .int .u8 z] w fun e w' => e = .returned (.bool false) ∧ w = w' := by
  go_enter Tryz.func54, Tryz.ntmps54
  go_wp2_with fail
  go_ret
  exact ⟨rfl, rfl⟩
set_option maxRecDepth 100000 in
theorem s3_15 (x y z : Int) (hx225 : (x == 225) = false) (hx226 : (x == 226) = false) (hx227 : (x == 227) = false) (w : World) : Calls Tryz.prog 54 #[.int .u8 x, .int .u8 y, .int .u8 z] w fun e w' => e = .returned (.bool false) ∧ w = w' := by
  go_enter Tryz.func54, Tryz.ntmps54
  go_wp2_with fail
  go_ret
  exact ⟨rfl, rfl⟩

theorem fc_space3 (x y z : UInt8) (w : World) : Calls Tryz.prog 54 #[.int .u8 (x.toNat : Int), .int .u8 (y.toNat : Int), .int .u8 (z.toNat : Int)] w fun e w' => e = .returned (.bool (sp3 x y z)) ∧ w = w' := by
  by_cases x1 : x = 225
  · subst x1
    by_cases y1 : y = 154
    · subst y1
      by_cases z1 : z = 128
      · subst z1
        exact s3_0 w
      · have e : sp3 225 154 z = false := by simp [sp3, z1]
        rw [e]
        exact s3_1 _ (ne_int z1) w
    · have e : sp3 225 y z = false := by simp [sp3, y1]
      rw [e]
      exact s3_2 _ _ (ne_int y1) w
  by_cases x2 : x = 226
  · subst x2
    by_cases y1 : y = 128
    · subst y1
      by_cases za : z = 168
      · subst za; exact s3_4 w
      by_cases zb : z = 169
      · subst zb; exact s3_5 w
      by_cases zc : z = 175
      · subst zc; exact s3_6 w
      by_cases h1 : 128 ≤ z.toNat
      · by_cases h2 : z.toNat ≤ 138
        · have e : sp3 226 128 z = true := by simp [sp3, h1, h2]
          rw [e]
          exact s3_3 _ (by omega) (by omega) w
        · have e : sp3 226 128 z = false := by simp [sp3, za, zb, zc, h2]
          rw [e]
          exact s3_8 _ (by omega) (ne_int za) (ne_int zb) (ne_int zc) w
      · have e : sp3 226 128 z = false := by simp [sp3, za, zb, zc, h1]
        rw [e]
        exact s3_7 _ (by omega) (ne_int za) (ne_int zb) (ne_int zc) w
    by_cases y2 : y = 129
    · subst y2
      by_cases z1 : z = 159
      · subst z1; exact s3_9 w
      · have e : sp3 226 129 z = false := by simp [sp3, z1]
        rw [e]
        exact s3_10 _ (ne_int z1) w
    · have e : sp3 226 y z = false := by simp [sp3, y1, y2]
      rw [e]
      exact s3_11 _ _ (ne_int y1) (ne_int y2) w
  by_cases x3 : x = 227
  · subst x3
    by_cases y1 : y = 128
    · subst y1
      by_cases z1 : z = 128
      · subst z1; exact s3_12 w
      · have e : sp3 227 128 z = false := by simp [sp3, z1]
        rw [e]
        exact s3_13 _ (ne_int z1) w
    · have e : sp3 227 y z = false := by simp [sp3, y1]
      rw [e]
      exact s3_14 _ _ (ne_int y1) w
  have e : sp3 x y z = false := by simp [sp3, x1, x2, x3]
  rw [e]
  exact s3_15 _ _ _ (ne_int x1) (ne_int x2) (ne_int x3) w
end Go.Proofs.YtmdkpihlhdjjaaaGreatFmt

namespace Go.Proofs.YtmdkpihlhdjjaaaGreatFmt
open Go.RowKit

set_option maxRecDepth 100000 in
set_option maxHeartbeats 400000 in
theorem wbd_room {s : Sink} (hs : s.Law Tryz.prog 561) {b : Nat} {u : FrameMode} {w : World} {F : Nat → Prop} {inner pend : List UInt8} {x : Int} (c : UInt8) (hx : x = (c.toNat : Int)) (h : BufP s b w F inner pend) (hr : pend.length < 4096) (hk : s.okb c = true) :
    CallsD Tryz.prog 242 #[.pointer (some ⟨b, 0, none⟩), .int .u8 x] u w fun e u' w' => u' = u ∧ e = .returned .nilIface ∧ BufPost s b F w inner (pend ++ [c]) w' := by
  obtain ⟨g, cur, Fs, hb, hg, hsz, hn, htk, hok, hI, hbg, hFb, hFg, hF⟩ := h
  have hc0 : w.cell? ⟨b, 0, none⟩ = some .nilIface := cell_at hb 0
  have hc1 : w.cell? ⟨b, 1, none⟩ = some (.slice (some ⟨g, 0, none⟩) 4096 4096) := cell_at hb 1
  have hc2 : w.cell? ⟨b, 2, none⟩ = some (.int .i64 (pend.length : Int)) := cell_at hb 2
  have hfb : w.frozen? ⟨b, 2, none⟩ = false := frozen_at hb 2
  have hfg : w.frozen? ⟨g, pend.length, none⟩ = false := frozen_at hg _
  have hcg : w.cell? ⟨g, pend.length, none⟩ = some (cur[pend.length]'(by omega)) := by rw [cell_at hg, Array.getElem?_eq_getElem]
  have hbg' : ¬ g = b := fun e => hbg e.symm
  have htest : decide ((4096 : Int) - (pend.length : Int) ≤ 0) = false := by simp; omega
  have hn' : (pend.length : Int) < 4096 := by omega
  have HF := Lib.hid hF; clear hF
  have HX := Lib.hid hx; clear hx
  go_enter_d Tryz.func242, Tryz.ntmps242
  go_wp2_with (go_at_call 238; refine (avail_any b g _ _ ?_ ?_ hc1 hc2).mono ?_; omega; omega; rintro e w1 ⟨rfl, k1, rfl⟩)
  go_region
  go_wp2
  go_ret
  obtain rfl := HX.out
  have hu0 : Upd (fun k => k = b ∨ k = g) w (((w.drewN k1).setCell ⟨g, pend.length, none⟩ (B8 c)).setCell ⟨b, 2, none⟩ (.int .i64 ((pend.length : Int) + 1))).drew :=
    ((((Upd.refl _ w).drewN k1).setCell (.inl (.inr rfl)) _).setCell (.inl (.inl rfl)) _).drew
  have hu : Upd F w (((w.drewN k1).setCell ⟨g, pend.length, none⟩ (B8 c)).setCell ⟨b, 2, none⟩ (.int .i64 ((pend.length : Int) + 1))).drew :=
    hu0.mono fun k hk => (HF.out k).2 (by rcases hk with h | h; exact .inl h; exact .inr (.inl h))
  have hb1 : ((w.drewN k1).setCell ⟨g, pend.length, none⟩ (B8 c)).heap[b]? = some _ := (Below.heap_setCell _ _ _ _ hbg).trans hb
  refine ⟨rfl, F, ⟨g, cur.setIfInBounds pend.length (B8 c), Fs, ?_, ?_, by simpa using hsz, by simp; omega, take_set_snoc htk (by omega), ?_, ?_, hbg, hFb, hFg, HF.out⟩, fun k hk => .inl hk, hu⟩
  · refine (heap_setCell_at _ hb1).trans ?_
    simp
  · exact (Below.heap_setCell _ _ _ _ hbg').trans (heap_setCell_at _ hg)
  · intro d hd
    rcases List.mem_append.1 hd with h | h
    · exact hok d h
    · rw [List.mem_singleton.1 h]; exact hk
  · exact hs.stable hI hu0 fun k hk e => by rcases e with rfl | rfl; exact hFb hk; exact hFg hk

set_option maxRecDepth 100000 in
set_option maxHeartbeats 400000 in
theorem wbd_full {s : Sink} (hs : s.Law Tryz.prog 561) {b : Nat} {u : FrameMode} {w : World} {F : Nat → Prop} {inner pend : List UInt8} {x : Int} (c : UInt8) (hx : x = (c.toNat : Int)) (h : BufP s b w F inner pend) (hr : pend.length = 4096) (hk : s.okb c = true) (hl : inner.length + pend.length ≤ LIM) :
    CallsD Tryz.prog 242 #[.pointer (some ⟨b, 0, none⟩), .int .u8 x] u w fun e u' w' => u' = u ∧ e = .returned .nilIface ∧ BufPost s b F w (inner ++ pend) [c] w' := by
  have h0 := h
  obtain ⟨g, cur, Fs, hb, hg, hsz, hn, htk, hok, hI, hbg, hFb, hFg, hF⟩ := h
  have hc0 : w.cell? ⟨b, 0, none⟩ = some .nilIface := cell_at hb 0
  have hc1 : w.cell? ⟨b, 1, none⟩ = some (.slice (some ⟨g, 0, none⟩) 4096 4096) := cell_at hb 1
  have hc2 : w.cell? ⟨b, 2, none⟩ = some (.int .i64 (4096 : Int)) := by rw [cell_at hb 2, hr]; rfl
  clear hb hg htk hok hI hbg hFb hFg hF hn hsz
  have HR := Lib.hid hr; clear hr
  have HX := Lib.hid hx; clear hx
  have H0 := Lib.hid h0; clear h0
  have HFl := Lib.hid (fun k => flush_any hs (H0.out.stable hs (((Upd.refl (fun _ => False) w).drewN k)) (fun _ _ hf => hf)) hl)
  go_enter_d Tryz.func242, Tryz.ntmps242
  go_wp2_with (first
    | (go_at_call 238; refine (avail_any b g _ _ ?_ ?_ hc1 hc2).mono ?_; omega; omega; rintro e w1 ⟨rfl, k1, rfl⟩)
    | (go_at_call 239; refine (HFl.out _).mono ?_; rintro e w2 ⟨rfl, hP⟩; have HP := Lib.hid hP; clear hP))
  clear hc0 hc1 hc2
  obtain ⟨F1, ⟨g1, cur1, Fs1, hb, hg, hsz, hn, htk, hok, hI, hbg, hFb, hFg, hF⟩, hF1, hU1⟩ := HP.out
  simp only [List.length_nil] at hb htk
  have hc0 : w2.cell? ⟨b, 0, none⟩ = some .nilIface := cell_at hb 0
  have hc1 : w2.cell? ⟨b, 1, none⟩ = some (.slice (some ⟨g1, 0, none⟩) 4096 4096) := cell_at hb 1
  have hc2 : w2.cell? ⟨b, 2, none⟩ = some (.int .i64 0) := cell_at hb 2
  have hfb : w2.frozen? ⟨b, 2, none⟩ = false := frozen_at hb 2
  have hfg : w2.frozen? ⟨g1, 0, none⟩ = false := frozen_at hg _
  have hcg : w2.cell? ⟨g1, 0, none⟩ = some (cur1[0]'(by omega)) := by rw [cell_at hg, Array.getElem?_eq_getElem]
  have hbg' : ¬ g1 = b := fun e => hbg e.symm
  have HF := Lib.hid hF; clear hF
  have HSz := Lib.hid hsz
  have HTk := Lib.hid htk; clear htk
  go_wp2
  go_region
  go_wp2
  go_ret
  obtain rfl := HX.out
  have hu0 : Upd (fun k => k = b ∨ k = g1) w2 ((w2.setCell ⟨g1, 0, none⟩ (B8 c)).setCell ⟨b, 2, none⟩ (.int .i64 1)).drew :=
    (((Upd.refl _ w2).setCell (.inl (.inr rfl)) _).setCell (.inl (.inl rfl)) _).drew
  have hu1 : Upd F1 w2 ((w2.setCell ⟨g1, 0, none⟩ (B8 c)).setCell ⟨b, 2, none⟩ (.int .i64 1)).drew :=
    hu0.mono fun k hk => (HF.out k).2 (by rcases hk with h | h; exact .inl h; exact .inr (.inl h))
  have hu : Upd F w ((w2.setCell ⟨g1, 0, none⟩ (B8 c)).setCell ⟨b, 2, none⟩ (.int .i64 1)).drew :=
    (((Upd.refl F w).drewN _).trans hU1).trans' hu1 hF1
  have hb1 : (w2.setCell ⟨g1, 0, none⟩ (B8 c)).heap[b]? = some _ := (Below.heap_setCell _ _ _ _ hbg).trans hb
  refine ⟨rfl, F1, ⟨g1, cur1.setIfInBounds 0 (B8 c), Fs1, ?_, ?_, by simpa using HSz.out, by simp, ?_, ?_, ?_, hbg, hFb, hFg, HF.out⟩, hF1, hu⟩
  · refine (heap_setCell_at _ hb1).trans ?_
    simp
  · exact (Below.heap_setCell _ _ _ _ hbg').trans (heap_setCell_at _ hg)
  · exact take_set_snoc (l := []) HTk.out (by have := HSz.out; simp; omega)
  · intro d hd
    rw [List.mem_singleton.1 hd]; exact hk
  · exact hs.stable hI hu0 fun k hk e => by rcases e with rfl | rfl; exact hFb hk; exact hFg hk

theorem wbd_any {s : Sink} (hs : s.Law Tryz.prog 561) {b : Nat} {u : FrameMode} {w : World} {F : Nat → Prop} {l : List UInt8} {x : Int} (c : UInt8) (hx : x = (c.toNat : Int)) (h : BufW s b w F l) (hk : s.okb c = true) (hl : l.length < LIM) :
    CallsD Tryz.prog 242 #[.pointer (some ⟨b, 0, none⟩), .int .u8 x] u w fun e u' w' => u' = u ∧ e = .returned .nilIface ∧ ∃ F', BufW s b w' F' (l ++ [c]) ∧ (∀ k, F' k → F k ∨ w.heap.size ≤ k) ∧ Upd F w w' := by
  obtain ⟨inner, pend, hp, rfl⟩ := h
  rw [List.length_append] at hl
  by_cases hr : pend.length = 4096
  · refine (wbd_full hs c hx hp hr hk (by omega)).mono ?_
    rintro e u' w' ⟨rfl, rfl, F', h1, h2, h3⟩
    exact ⟨rfl, rfl, F', ⟨_, _, h1, by simp⟩, h2, h3⟩
  · have hn : pend.length ≤ 4096 := by obtain ⟨g, cur, Fs, _, _, _, h, _⟩ := hp; exact h
    refine (wbd_room hs c hx hp (by omega) hk).mono ?_
    rintro e u' w' ⟨rfl, rfl, F', h1, h2, h3⟩
    exact ⟨rfl, rfl, F', ⟨_, _, h1, by simp⟩, h2, h3⟩

end Go.Proofs.YtmdkpihlhdjjaaaGreatFmt

namespace Go.Proofs.YtmdkpihlhdjjaaaGreatFmt
open Go.RowKit

theorem lastIdx_right (s : ByteArray) : ∀ f i, Lib.lastIdxFuncFrom Lib.isSpaceR false s f i = Lib.rightFrom s f i
  | 0, _ => rfl
  | f + 1, i => by
    unfold Lib.lastIdxFuncFrom Lib.rightFrom
    split
    · cases h : Lib.isSpaceR (Lib.decodeLastL (s.data.toList.take i)).1
      · simp
      · simp [lastIdx_right s f]
    · rfl
theorem trimR_go (s : ByteArray) : Lib.trimRightF Lib.isSpaceR s = Lib.goTrimRight s := by
  unfold Lib.trimRightF Lib.rightEndF Lib.goTrimRight Lib.rightEnd Lib.lastIdxFunc Lib.rightIdx
  rw [lastIdx_right]
theorem trimR_bytes (s : ByteArray) : (Lib.trimRightF Lib.isSpaceR s).data.toList = Lib.stripR s.data.toList.length s.data.toList := by
  rw [trimR_go, Lib.goTrimRight_eq, Lib.stripR_eq]

def ws1 (c : UInt8) : Bool := c == 32 || (decide (9 ≤ c.toNat) && decide (c.toNat ≤ 13))
def ws2 (b c : UInt8) : Bool := b == 0xC2 && (c == 0x85 || c == 0xA0)
/-- The white space at the end, as zzTrimRightSpace looks for it: over the bytes from the last on. -/
def zzTl : List UInt8 → Nat
  | [] => 0
  | [c] => if ws1 c then 1 else 0
  | [c, b] => if ws1 c then 1 else if ws2 b c then 2 else 0
  | c :: b :: a :: _ => if ws1 c then 1 else if ws2 b c then 2 else if sp3 a b c then 3 else 0
theorem zzTl_1 {c : UInt8} {r : List UInt8} (h : ws1 c = true) : zzTl (c :: r) = 1 := by
  match r with
  | [] => simp [zzTl, h]
  | [_] => simp [zzTl, h]
  | _ :: _ :: _ => simp [zzTl, h]
theorem zzTl_2 {c b : UInt8} {r : List UInt8} (h1 : ws1 c = false) (h : ws2 b c = true) : zzTl (c :: b :: r) = 2 := by
  match r with
  | [] => simp [zzTl, h1, h]
  | _ :: _ => simp [zzTl, h1, h]

theorem ws_cases (c : UInt8) (h : 9 ≤ c.toNat ∧ c.toNat ≤ 13) : c = 9 ∨ c = 10 ∨ c = 11 ∨ c = 12 ∨ c = 13 := by
  have h2 : c.toNat = 9 ∨ c.toNat = 10 ∨ c.toNat = 11 ∨ c.toNat = 12 ∨ c.toNat = 13 := by omega
  rcases h2 with h | h | h | h | h
  · exact .inl (UInt8.toNat_inj.1 h)
  · exact .inr (.inl (UInt8.toNat_inj.1 h))
  · exact .inr (.inr (.inl (UInt8.toNat_inj.1 h)))
  · exact .inr (.inr (.inr (.inl (UInt8.toNat_inj.1 h))))
  · exact .inr (.inr (.inr (.inr (UInt8.toNat_inj.1 h))))
theorem z_cases (c : UInt8) (h : 128 ≤ c.toNat ∧ c.toNat ≤ 138) : c = 128 ∨ c = 129 ∨ c = 130 ∨ c = 131 ∨ c = 132 ∨ c = 133 ∨ c = 134 ∨ c = 135 ∨ c = 136 ∨ c = 137 ∨ c = 138 := by
  have h2 : c.toNat = 128 ∨ c.toNat = 129 ∨ c.toNat = 130 ∨ c.toNat = 131 ∨ c.toNat = 132 ∨ c.toNat = 133 ∨ c.toNat = 134 ∨ c.toNat = 135 ∨ c.toNat = 136 ∨ c.toNat = 137 ∨ c.toNat = 138 := by omega
  rcases h2 with h | h | h | h | h | h | h | h | h | h | h <;> (have e : c = UInt8.ofNat c.toNat := UInt8.ofNat_toNat.symm; rw [h] at e; subst e; decide)

/-- The sequence at the end is found by its length. -/
theorem tail_none {l : List UInt8} (h : ∀ q ∈ Lib.spaceSeqs, q.isSuffixOf l = false) : Lib.tailSpace l = 0 := by
  unfold Lib.tailSpace
  rw [List.find?_eq_none.2 (fun q hq => by simp [h q hq])]
  rfl
theorem tail_len {l : List UInt8} {k : Nat} (hk : ∃ q ∈ Lib.spaceSeqs, q.isSuffixOf l = true) (h : ∀ q ∈ Lib.spaceSeqs, q.isSuffixOf l = true → q.length = k) : Lib.tailSpace l = k := by
  unfold Lib.tailSpace
  obtain ⟨q, hq, hs⟩ := hk
  cases hf : Lib.spaceSeqs.find? (·.isSuffixOf l) with
  | none =>
    rw [List.find?_eq_none] at hf
    exact absurd hs (hf q hq)
  | some p =>
    have h1 := List.find?_some hf
    have h2 := List.mem_of_find?_eq_some hf
    simp [h p h2 (by simpa using h1)]

theorem suf_rev (q l : List UInt8) : q.isSuffixOf l = q.reverse.isPrefixOf l.reverse := rfl

theorem tail_eq (r : List UInt8) : Lib.tailSpace r.reverse = zzTl r := by
  have hsuf : ∀ q : List UInt8, q.isSuffixOf r.reverse = q.reverse.isPrefixOf r := fun q => by rw [suf_rev, List.reverse_reverse]
  match r, hsuf with
  | [], _ => rfl
  | c :: r, hsuf =>
    cases h : ws1 c
    rotate_left
    · rw [zzTl_1 h]
      have h0 : c = 32 ∨ (9 ≤ c.toNat ∧ c.toNat ≤ 13) := by simpa [ws1] using h
      have h' : c = 32 ∨ c = 9 ∨ c = 10 ∨ c = 11 ∨ c = 12 ∨ c = 13 := h0.imp id (ws_cases c)
      refine tail_len ?_ ?_
      · refine ⟨[c], ?_, by rw [hsuf]; simp [List.isPrefixOf]⟩
        rcases h' with rfl | rfl | rfl | rfl | rfl | rfl <;> simp [Lib.spaceSeqs]
      · intro q hq hs
        rw [hsuf] at hs
        have h3 : ∀ q ∈ Lib.spaceSeqs, q.length = 1 ∨ 128 ≤ (q.reverse.head?.getD 0).toNat := by decide
        rcases h3 q hq with h1 | h1
        · exact h1
        · exfalso
          cases hr : q.reverse with
          | nil => rw [hr] at h1; simp at h1
          | cons x t =>
            rw [hr] at h1 hs
            simp only [List.isPrefixOf, Bool.and_eq_true, beq_iff_eq] at hs
            simp only [List.head?_cons, Option.getD_some] at h1
            rw [hs.1] at h1
            have h4 : c.toNat ≤ 32 := by rcases h' with rfl | rfl | rfl | rfl | rfl | rfl <;> decide
            omega
    · have hno1 : ∀ q ∈ Lib.spaceSeqs, q.length = 1 → q.isSuffixOf (c :: r).reverse = false := by
        intro q hq hl
        rw [hsuf]
        obtain ⟨x, rfl⟩ := List.length_eq_one_iff.1 hl
        have h2 : ∀ q ∈ Lib.spaceSeqs, q.length = 1 → ws1 (q.head?.getD 0) = true := by decide
        have h3 := h2 _ hq hl
        simp only [List.head?_cons, Option.getD_some] at h3
        simp only [List.reverse_cons, List.reverse_nil, List.nil_append, List.isPrefixOf, Bool.and_true, beq_eq_false_iff_ne]
        rintro rfl
        rw [h] at h3
        cases h3
      match r, hsuf, hno1 with
      | [], hsuf, hno1 =>
        have e : zzTl [c] = 0 := by simp [zzTl, h]
        rw [e]
        refine tail_none fun q hq => ?_
        by_cases hl : q.length = 1
        · exact hno1 q hq hl
        · rw [hsuf]
          have h2 : ∀ q ∈ Lib.spaceSeqs, q.length = 1 ∨ 2 ≤ q.length := by decide
          have h3 : 2 ≤ q.reverse.length := by rw [List.length_reverse]; have := h2 q hq; omega
          match hr : q.reverse, h3 with
          | x :: y :: t, _ => simp [List.isPrefixOf]
      | b :: r2, hsuf, hno1 =>
        cases h2 : ws2 b c
        rotate_left
        · rw [zzTl_2 h h2]
          have h2' : b = 0xC2 ∧ (c = 0x85 ∨ c = 0xA0) := by simpa [ws2] using h2
          refine tail_len ⟨[b, c], ?_, by rw [hsuf]; simp [List.isPrefixOf]⟩ ?_
          · obtain ⟨rfl, rfl | rfl⟩ := h2' <;> simp [Lib.spaceSeqs]
          · intro q hq hs
            by_cases hl : q.length = 1
            · rw [hno1 q hq hl] at hs; cases hs
            · have h3 : ∀ q ∈ Lib.spaceSeqs, q.length = 1 ∨ q.length = 2 ∨ (2 ≤ q.length ∧ (q.reverse.drop 1).head?.getD 0 ≠ 0xC2) := by decide
              rcases h3 q hq with h4 | h4 | ⟨h5, h4⟩
              · exact absurd h4 hl
              · exact h4
              · exfalso
                rw [hsuf] at hs
                have h6 : 2 ≤ q.reverse.length := by rw [List.length_reverse]; exact h5
                match hr : q.reverse, h6 with
                | x :: y :: t, _ =>
                  rw [hr] at hs h4
                  simp only [List.isPrefixOf, Bool.and_eq_true, beq_iff_eq] at hs
                  simp only [List.drop_succ_cons, List.drop_zero, List.head?_cons, Option.getD_some] at h4
                  exact h4 (hs.2.1.trans h2'.1)
        · have hno2 : ∀ q ∈ Lib.spaceSeqs, q.length = 2 → q.isSuffixOf (c :: b :: r2).reverse = false := by
            intro q hq hl
            rw [hsuf]
            have h3 : ∀ q ∈ Lib.spaceSeqs, q.length = 2 → ws2 (q.getD 0 0) (q.getD 1 0) = true := by decide
            have h4 := h3 q hq hl
            match q, hl with
            | [x, y], _ =>
              simp only [List.getD_cons_zero, List.getD_cons_succ] at h4
              simp only [List.reverse_cons, List.reverse_nil, List.nil_append, List.cons_append, List.isPrefixOf, Bool.and_true, Bool.and_eq_false_iff, beq_eq_false_iff_ne]
              by_cases e1 : y = c
              · right
                rintro rfl
                rw [e1, h2] at h4
                cases h4
              · exact .inl e1
          match r2, hsuf, hno1, hno2 with
          | [], hsuf, hno1, hno2 =>
            have e : zzTl [c, b] = 0 := by simp [zzTl, h, h2]
            rw [e]
            refine tail_none fun q hq => ?_
            by_cases hl : q.length = 1
            · exact hno1 q hq hl
            by_cases hl2 : q.length = 2
            · exact hno2 q hq hl2
            · rw [hsuf]
              have h2 : ∀ q ∈ Lib.spaceSeqs, q.length = 1 ∨ q.length = 2 ∨ 3 ≤ q.length := by decide
              have h3 : 3 ≤ q.reverse.length := by rw [List.length_reverse]; have := h2 q hq; omega
              match hr : q.reverse, h3 with
              | x :: y :: z :: t, _ => simp [List.isPrefixOf]
          | a :: r3, hsuf, hno1, hno2 =>
            have e : zzTl (c :: b :: a :: r3) = if sp3 a b c then 3 else 0 := by simp [zzTl, h, h2]
            rw [e]
            have hseq : sp3 a b c = true ↔ [a, b, c] ∈ Lib.spaceSeqs := by
              constructor
              · intro h
                simp only [sp3, Bool.or_eq_true, Bool.and_eq_true, beq_iff_eq, decide_eq_true_eq] at h
                rcases h with ((⟨⟨rfl, rfl⟩, rfl⟩ | ⟨⟨rfl, rfl⟩, h⟩) | ⟨⟨rfl, rfl⟩, rfl⟩) | ⟨⟨rfl, rfl⟩, rfl⟩
                · simp [Lib.spaceSeqs]
                · rcases h with ((h | rfl) | rfl) | rfl
                  · have hz := z_cases c (by simpa using h)
                    rcases hz with rfl | rfl | rfl | rfl | rfl | rfl | rfl | rfl | rfl | rfl | rfl <;> simp [Lib.spaceSeqs]
                  all_goals simp [Lib.spaceSeqs]
                · simp [Lib.spaceSeqs]
                · simp [Lib.spaceSeqs]
              · intro h
                have h3 : ∀ q ∈ Lib.spaceSeqs, q.length = 3 → sp3 (q.getD 0 0) (q.getD 1 0) (q.getD 2 0) = true := by decide
                simpa using h3 _ h rfl
            have hpre : ∀ q ∈ Lib.spaceSeqs, q.length = 3 → (q.isSuffixOf (c :: b :: a :: r3).reverse = true ↔ q = [a, b, c]) := by
              intro q hq hl
              rw [hsuf]
              match q, hl with
              | [x, y, z], _ =>
                simp [List.isPrefixOf]
                constructor
                · rintro ⟨rfl, rfl, rfl⟩; simp
                · rintro ⟨rfl, rfl, rfl⟩; simp
            have hlen : ∀ q ∈ Lib.spaceSeqs, q.length = 1 ∨ q.length = 2 ∨ q.length = 3 := by decide
            cases h3 : sp3 a b c
            · refine tail_none fun q hq => ?_
              rcases hlen q hq with h | h | h
              · exact hno1 q hq h
              · exact hno2 q hq h
              · rw [Bool.eq_false_iff]
                intro hs
                have h5 := (hpre q hq h).1 hs
                rw [h5] at hq
                rw [hseq.2 hq] at h3
                cases h3
            · refine tail_len ⟨[a, b, c], hseq.1 h3, (hpre _ (hseq.1 h3) rfl).2 rfl⟩ fun q hq hs => ?_
              rcases hlen q hq with h | h | h
              · rw [hno1 q hq h] at hs; cases hs
              · rw [hno2 q hq h] at hs; cases hs
              · exact h

theorem stripR_fuel : ∀ (f : Nat) (l : List UInt8), l.length ≤ f → Lib.stripR f l = Lib.stripR l.length l := by
  intro f
  induction f using Nat.strongRecOn with
  | _ f ih =>
    intro l hl
    match f, l, hl with
    | 0, [], _ => rfl
    | f + 1, [], _ => simp [Lib.stripR, Lib.tailSpace_nil]
    | f + 1, c :: r, hl =>
      have hlen : (c :: r).length = r.length + 1 := rfl
      rw [hlen]
      unfold Lib.stripR
      split
      · rfl
      · rename_i hk
        have h1 : ((c :: r).take ((c :: r).length - Lib.tailSpace (c :: r))).length ≤ r.length := by
          rw [List.length_take, hlen]; omega
        rw [hlen] at hl
        rw [ih f (by omega) _ (by omega), ih r.length (by omega) _ h1]

/-- One round of zzTrimRightSpace. -/
theorem strip_step (l : List UInt8) (n : Nat) (hn : n ≤ l.length) (k : Nat) (hk : zzTl (l.take n).reverse = k) (h0 : 0 < k) (hkn : k ≤ n) : Lib.stripR n (l.take n) = Lib.stripR (n - k) (l.take (n - k)) := by
  have ht : Lib.tailSpace (l.take n) = k := by rw [← hk, ← tail_eq, List.reverse_reverse]
  have hl : (l.take n).length = n := by rw [List.length_take]; omega
  obtain ⟨m, rfl⟩ : ∃ m, n = m + 1 := ⟨n - 1, by omega⟩
  have hl2 : (l.take (m + 1 - k)).length = m + 1 - k := by rw [List.length_take]; omega
  rw [Lib.stripR, if_neg (by omega), ht, hl, List.take_take, Nat.min_eq_left (by omega), stripR_fuel m _ (by omega), hl2]
theorem strip_end (l : List UInt8) (n : Nat) (hk : zzTl (l.take n).reverse = 0) : Lib.stripR n (l.take n) = l.take n := by
  have ht : Lib.tailSpace (l.take n) = 0 := by rw [← hk, ← tail_eq, List.reverse_reverse]
  cases n with
  | zero => rfl
  | succ n => rw [Lib.stripR, if_pos ht]
theorem take_rev1 (l : List UInt8) (n : Nat) (h1 : 1 ≤ n) (hn : n ≤ l.length) : (l.take n).reverse = l[n - 1]'(by omega) :: (l.take (n - 1)).reverse := by
  obtain ⟨m, rfl⟩ : ∃ m, n = m + 1 := ⟨n - 1, by omega⟩
  rw [List.take_succ_eq_append_getElem (by omega), List.reverse_append]
  rfl
end Go.Proofs.YtmdkpihlhdjjaaaGreatFmt
