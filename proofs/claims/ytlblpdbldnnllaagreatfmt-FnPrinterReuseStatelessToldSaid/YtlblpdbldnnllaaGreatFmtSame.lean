/-
  Many variables made in a row; n010_39: an empty sink, and the comparison of bytes with a string and with bytes.
-/
import Derived.Test.YtlblpdbldnnllaaGreatFmtO39
namespace Go.Proofs.YtlblpdbldnnllaaGreatFmt
open Go.RowKit

theorem allocs_size (cs : List Obj) (w : World) : (cs.foldl World.alloc w).heap.size = w.heap.size + cs.length := by
  induction cs generalizing w with
  | nil => rfl
  | cons c cs ih => rw [List.foldl_cons, ih]; simp; omega
theorem allocs_upd (cs : List Obj) (w : World) : Upd (fun _ => False) w (cs.foldl World.alloc w) := by
  induction cs generalizing w with
  | nil => exact Upd.refl _ _
  | cons c cs ih => rw [List.foldl_cons]; exact ((Upd.refl _ w).alloc c).trans (ih _)
theorem allocs_get (cs : List Obj) (w : World) {i : Nat} {o : Obj} (h : cs[i]? = some o) : (cs.foldl World.alloc w).heap[w.heap.size + i]? = some o := by
  induction cs generalizing w i with
  | nil => simp at h
  | cons c cs ih =>
    rw [List.foldl_cons]
    cases i with
    | zero =>
      simp only [List.getElem?_cons_zero, Option.some.injEq] at h
      subst h
      exact (allocs_upd cs _).heap (heap_alloc_new w c) fun h => h
    | succ i =>
      have := ih (w.alloc c) (i := i) (by simpa using h)
      rw [show (w.alloc c).heap.size = w.heap.size + 1 by simp] at this
      rw [show w.heap.size + (i + 1) = w.heap.size + 1 + i by omega]
      exact this

theorem zs_zero {w : World} {k : Nat} (h : w.heap[k]? = some (.cells #[.slice none 0 0] 39 (0, 0))) : zsI k w (fun j => j = k) [] :=
  ⟨_, h, Row.nil w, by simp [Value.ownBlock], fun j => by simp [Value.ownBlock]⟩

set_option maxRecDepth 100000 in
set_option maxHeartbeats 2000000 in
theorem same_bytes {w : World} {v : Value} {l : List UInt8} (h : Row w v l) (s : ByteArray) (hs : s.data.toList = l) (hl : l.length ≤ 1099511627776) : Calls Tryz.prog 26 #[v, .string s] w fun e w' => e = .returned (.bool true) ∧ Upd (fun _ => False) w w' := by
  have hsz : s.size = l.length := by rw [← hs]; rfl
  have hlI : (l.length : Int) ≤ 1099511627776 := by omega
  by_cases h0 : l = []
  · subst h0
    obtain ⟨ao, c, rfl⟩ : ∃ ao c, v = .slice ao 0 c := h.form
    have hsz0 : s.size = 0 := hsz
    clear h hs hsz hl hlI
    go_enter Tryz.func26, Tryz.ntmps26
    go_wp2_with fail
    go_loopg [5] 0 (fun _ v5 wr => Upd (fun _ => False) w wr ∧ v5 = .int .i64 0)
    case atStart => exact ⟨Upd.refl _ _, rfl⟩
    case round =>
      obtain ⟨hu, rfl⟩ := hrel
      have HU := Lib.hid hu
      clear hu
      go_wp2_with fail
      go_ret
      exact ⟨rfl, HU.out⟩
  · obtain ⟨g, c, rfl⟩ : ∃ g c, v = .slice (some ⟨g, 0, none⟩) l.length c := by
      rcases h.2 with ⟨h1, h2⟩ | ⟨g, cap, cur, h1, _⟩
      · exact absurd (List.eq_nil_of_length_eq_zero h2) h0
      · exact ⟨g, cap, h1⟩
    obtain ⟨n, hn⟩ : ∃ n, n = l.length := ⟨_, rfl⟩
    have hc : ∀ i (hi : i < l.length), w.cell? ⟨g, i, none⟩ = some (.int .u8 ((l[i]'hi).toNat : Int)) := fun i hi => by
      have := h.cells rfl i (.int .u8 ((l[i]'hi).toNat : Int)) (by simp [bv, hi]; rfl)
      rwa [Addr.add_base] at this
    have hget : ∀ i (hi : i < l.length) (hj : i < s.size), s[i]'hj = l[i]'hi := fun i hi hj => by
      subst hs
      rfl
    rw [← hn] at hsz hlI ⊢
    have HC := Lib.hid (And.intro hc (And.intro hget hn))
    clear h hs hl hc hget hn h0
    go_enter Tryz.func26, Tryz.ntmps26
    go_wp2_with fail
    go_loopg [5] n (fun k v5 wr => Upd (fun _ => False) w wr ∧ ∃ i : Nat, v5 = .int .i64 (i : Int) ∧ i + k = n)
    case atStart => exact ⟨Upd.refl _ _, 0, rfl, by omega⟩
    case round =>
      obtain ⟨hu, i, rfl, hik⟩ := hrel
      by_cases hlt : i < n
      · have hltI : (i : Int) < (n : Int) := by omega
        have hi : i < l.length := by rw [← HC.out.2.2]; exact hlt
        have d0 := hu.cell (HC.out.1 i hi) fun h => h
        have hg := HC.out.2.1 i hi
        obtain ⟨x, hx⟩ : ∃ x, x = l[i]'hi := ⟨_, rfl⟩
        rw [← hx] at d0 hg
        have HU := Lib.hid hu
        have HK := Lib.hid hik
        clear hu hx hik
        go_wp2_with fail
        go_region
        all_goals
          go_wp2_with fail
          go_roundg (n - (i + 1))
          case measure => have := HK.out; omega
          case rel => exact ⟨HU.out.drew, i + 1, by go_num, by have := HK.out; omega⟩
      · obtain rfl : i = n := by omega
        have HU := Lib.hid hu
        clear hu hik
        go_wp2_with fail
        go_ret
        exact ⟨rfl, HU.out⟩
end Go.Proofs.YtlblpdbldnnllaaGreatFmt
