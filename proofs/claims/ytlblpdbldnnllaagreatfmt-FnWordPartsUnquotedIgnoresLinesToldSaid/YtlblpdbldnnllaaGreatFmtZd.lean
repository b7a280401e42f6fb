/-
  n010_150: literals, quoted parts and words are printed; the concatenation of literals that are printed alone.
-/
import Derived.Test.YtlblpdbldnnllaaGreatFmtZc
import Derived.Test.YtlblpdbldnnllaaGreatFmtZa
import Derived.Test.YtlblpdbldnnllaaGreatFmtQz
namespace Go.Proofs.YtlblpdbldnnllaaGreatFmt
open Go.RowKit

/-- A text that the printer's tabwriter hands on as it is. -/
def TwText (s : ByteArray) : Prop := ∀ x ∈ s.data.toList, twOk x = true ∧ x ≠ 9

theorem TwText.ok {T : Sink} (hT : TOk T) {s : ByteArray} (h : TwText s) : ∀ x ∈ s.data.toList, T.okb x = true ∧ x ≠ 9 := fun x hx => ⟨hT.ok x (h x hx).1, (h x hx).2⟩

set_option maxRecDepth 100000 in
set_option maxHeartbeats 2000000 in
theorem z_printLit (s : ByteArray) (line : Nat) (mi : Bool) (hs : TwText s) (hz : s.size ≤ 1048576) (w : World) :
    Calls Tryz.prog 10 #[.string s, .int .u64 (line : Int), .bool mi] w fun e w' => e = .returned (.tuple #[.string ⟨(litText s.data.toList).toArray⟩, .bool true]) ∧ Upd (fun _ => False) w w' := by
  obtain ⟨Q, HQ, HC⟩ := callsVar (z_lit s line w)
  have hl := litText_len s
  have HS := Lib.hid (And.intro hs (And.intro hz hl))
  clear hs hz hl
  go_enter Tryz.func10, Tryz.ntmps10
  go_wp2_with (go_at_call 37; refine HC.out.mono ?_)
  rintro e w1 hq
  obtain ⟨lb, rfl, hlb, hlo, hu1⟩ := HQ.out e w1 hq
  clear hq
  have HP := Lib.hid (z_part mi (w := w1) (l := litText s.data.toList) (by have := HS.out.2; unfold LIM; omega) partTy_lit (nb := lb) (o := 0) (lc := lcP line) (lcP_lt line)
    (fun hT hcar hX => lit_pos (hX.at (hcar _ _ hlo)))
    (fun hT hcar hX => (v_wordPart_lit hT hX (p := litZ lb line s) (hcar _ _ hlo) .nilIface (HS.out.1.ok hT) (by have := HS.out.2.1; unfold LIM; show [].length + s.size + 1 ≤ _; simp only [List.length_nil]; omega)).mono fun e w' ⟨he, hx⟩ => ⟨he, _, hx⟩))
  have HU := Lib.hid hu1
  clear hlb hlo hu1
  go_wp2_with (go_at_call 36; refine HP.out.mono ?_; rintro e w2 ⟨rfl, hu2⟩; have HU2 := Lib.hid hu2; clear hu2)
  go_ret2
  exact ⟨rfl, HU.out.trans HU2.out⟩

set_option maxRecDepth 100000 in
set_option maxHeartbeats 2000000 in
theorem z_printSgl (s : ByteArray) (dollar mi : Bool) (hs : TwText s) (hz : s.size ≤ 1048576) (w : World) :
    Calls Tryz.prog 13 #[.string s, .bool dollar, .int .u64 1, .bool mi] w fun e w' => e = .returned (.tuple #[.string ⟨(sglText dollar s.data.toList).toArray⟩, .bool true]) ∧ Upd (fun _ => False) w w' := by
  have HS := Lib.hid (And.intro hs hz)
  have hlen : (sglText dollar s.data.toList).length ≤ s.size + 3 := by
    have : s.data.toList.length = s.size := rfl
    cases dollar <;> simp [sglText] <;> omega
  have HLn := Lib.hid hlen
  have hlc : lcP 1 = 16385 := rfl
  have HN := Lib.hid (fun W => new_pos 0 1 (by omega) W)
  clear hs hz hlen
  go_enter Tryz.func13, Tryz.ntmps13
  go_wp2_with (first
    | (go_at_call 38; refine (HN.out w).mono ?_; rintro e w1 ⟨rfl, hu1⟩; have HU1 := Lib.hid hu1; clear hu1)
    | (go_at_call 38; refine (HN.out _).mono ?_; rintro e w2 ⟨rfl, hu2⟩; have HU2 := Lib.hid (HU1.out.trans hu2); clear hu2
       have hlo : (w2.alloc (sglO dollar s)).heap[w2.heap.size]? = some (sglO dollar s) := heap_alloc_new _ _
       have HP := Lib.hid (z_part mi (w := w2.alloc (sglO dollar s)) (l := sglText dollar s.data.toList) (by have h1 := HS.out.2; have h2 := HLn.out; unfold LIM; omega) partTy_sgl (nb := w2.heap.size) (o := 0) (lc := 16385) (by decide)
         (fun hT hcar hX => sgl_pos (hX.at (hcar _ _ hlo)))
         (fun hT hcar hX => (v_wordPart_sgl hT hX (hcar _ _ hlo) .nilIface (HS.out.1.ok hT) (by have := HS.out.2; unfold LIM; simp only [List.length_nil]; omega)).mono fun e w' ⟨he, hx⟩ => ⟨he, _, hx⟩))
       clear hlo)
    | (go_at_call 36; refine HP.out.mono ?_; rintro e w3 ⟨rfl, hu3⟩; have HU3 := Lib.hid hu3; clear hu3))
  go_ret2
  exact ⟨rfl, (HU2.out.alloc _).trans HU3.out⟩

theorem partsZ_text {w : World} {rb : Nat} {ps : List LitP} {vals : List ByteArray} {lines : List Nat} (h : PartsZ w rb ps vals lines) : partsText ps = vals.flatMap fun s => litText s.data.toList := by
  rw [← h.2.1, List.flatMap_map]
  rfl
theorem partsZ_size {w : World} {rb : Nat} {ps : List LitP} {vals : List ByteArray} {lines : List Nat} (h : PartsZ w rb ps vals lines) : partsSize ps = (vals.map ByteArray.size).sum + vals.length := by
  rw [← h.2.1]
  clear h
  induction ps with
  | nil => rfl
  | cons p r ih =>
    simp only [partsSize, List.map_cons, List.sum_cons, List.map_map, List.length_cons, List.length_map] at ih ⊢
    rw [ih]
    omega
theorem partsZ_len {w : World} {rb : Nat} {ps : List LitP} {vals : List ByteArray} {lines : List Nat} (h : PartsZ w rb ps vals lines) : ps.length = vals.length := by rw [← h.2.1, List.length_map]

set_option maxRecDepth 100000 in
set_option maxHeartbeats 2000000 in
/-- A word of literals is printed: the lines do not matter. -/
theorem z_printWord {w : World} {vv lv : Value} {vals : List ByteArray} {lines : List Nat} (mi : Bool) (hv : StrsRd w vv vals) (hL : UintsRd w lv lines) (hlen : lines.length = vals.length) (hne : vals ≠ []) (hl : vals.length ≤ 1048576) (hs : ∀ s ∈ vals, TwText s) (hz : (vals.map ByteArray.size).sum ≤ 1048576) :
    Calls Tryz.prog 33 #[vv, lv, .bool mi] w fun e w' => e = .returned (.tuple #[.string ⟨(vals.flatMap fun s => litText s.data.toList).toArray⟩, .bool true]) ∧ Upd (fun _ => False) w w' := by
  obtain ⟨Q, HQ, HC⟩ := callsVar (z_litParts hv hL hlen hl)
  have HS := Lib.hid (And.intro hs (And.intro hz (And.intro hne hl)))
  clear hs hz hne hl hv hL hlen
  go_enter Tryz.func33, Tryz.ntmps33
  go_wp2_with (go_at_call 62; refine HC.out.mono ?_)
  rintro e w1 hq
  obtain ⟨rb, ps, rfl, hps, hu1⟩ := HQ.out e w1 hq
  clear hq
  have hlo : (w1.alloc (.cells #[.slice (some ⟨rb, 0, none⟩) vals.length vals.length] 124)).heap[w1.heap.size]? = some (.cells #[.slice (some ⟨rb, 0, none⟩) vals.length vals.length] 124 (0, 0)) := heap_alloc_new _ _
  have hu2 : Upd (fun _ => False) w1 (w1.alloc (.cells #[.slice (some ⟨rb, 0, none⟩) vals.length vals.length] 124)) := (Upd.refl _ w1).alloc _
  have hpr : ∀ (S : Sink) (pb b tb : Nat) (w2 : World) (O Fs : Nat → Prop), S.Law Tryz.prog 539 → (∀ c, S.okb c = true) → PrAny pb b tb (optMi mi PS0) w2 O → S.I w2 Fs [] → (∀ k, O k → ¬ Fs k) → (∀ k, O k → (w1.alloc (.cells #[.slice (some ⟨rb, 0, none⟩) vals.length vals.length] 124)).heap.size ≤ k) →
      (∀ k, Fs k → (w1.alloc (.cells #[.slice (some ⟨rb, 0, none⟩) vals.length vals.length] 124)).heap.size ≤ k) → Upd (fun _ => False) (w1.alloc (.cells #[.slice (some ⟨rb, 0, none⟩) vals.length vals.length] 124)) w2 →
      Calls Tryz.prog 24 #[.pointer (some ⟨pb, 0, none⟩), .iface S.ty (.pointer (some S.ptr)), .iface 43 (.pointer (some ⟨w1.heap.size, 0, none⟩))] w2 fun e w' => e = .returned .nilIface ∧ PrintV S O Fs (vals.flatMap fun s => litText s.data.toList) w2 w' := by
    intro S pb b tb w2 O Fs hS hok hA hI hd hO hF hu
    have hn : ∀ {k : Nat} {x : Obj}, (w1.alloc (.cells #[.slice (some ⟨rb, 0, none⟩) vals.length vals.length] 124)).heap[k]? = some x → w2.heap[k]? = some x ∧ ¬ (O k ∨ Fs k) := fun {k x} hk => by
      have h1 := heap_lt hk
      refine ⟨hu.heap hk fun h => h, fun e => ?_⟩
      rcases e with e | e
      · have := hO k e; omega
      · have := hF k e; omega
    have hlen := partsZ_len hps
    obtain ⟨p, r, hpr⟩ : ∃ p r, ps = p :: r := by
      cases ps with
      | nil => exact absurd (List.length_eq_zero_iff.1 hlen.symm) HS.out.2.2.1
      | cons p r => exact ⟨p, r, rfl⟩
    have hW : WordAt (fun k => O k ∨ Fs k) w1.heap.size rb w2 (p :: r) := by
      rw [← hpr]
      refine ⟨⟨vals.length, by rw [hlen]; exact (hn hlo).1⟩, (hn hlo).2, (hn (hu2.heap hps.1.1 fun h => h)).1, (hn (hu2.heap hps.1.1 fun h => h)).2, fun q hq => ?_⟩
      obtain ⟨q1, q2, q3⟩ := hps.1.2 q hq
      exact ⟨(hn (hu2.heap q1 fun h => h)).1, (hn (hu2.heap q1 fun h => h)).2, q2, by rw [q3]; exact q2⟩
    have hsz := partsZ_size hps
    have hm := HS.out
    have hl : partsSize (p :: r) + 1 ≤ LIM := by rw [← hpr, hsz]; unfold LIM; omega
    refine (pg_word hS hok hA rfl (by cases mi <;> rfl) (Nat.zero_le _) hI hd hW (fun q hq x hx => ?_) hl).mono ?_
    · rw [← hpr] at hq
      have h1 : q.v ∈ vals := by rw [← hps.2.1]; exact List.mem_map_of_mem hq
      exact (hm.1 q.v h1 x hx).1
    · rintro e w' ⟨rfl, s', O', F', _, _, hI', _, hF', hU'⟩
      rw [← hpr, partsZ_text hps] at hI'
      exact ⟨rfl, F', hI', fun k hk => hF' k (.inr hk), hU'⟩
  have HP := Lib.hid (z_print mi hpr)
  have HU := Lib.hid (hu1.trans hu2)
  clear hps hlo hu1 hu2 hpr
  go_wp2_with (go_at_call 36; refine HP.out.mono ?_; rintro e w2 ⟨rfl, hu2⟩; have HU2 := Lib.hid hu2; clear hu2)
  go_ret2
  exact ⟨rfl, HU.out.trans HU2.out⟩

end Go.Proofs.YtlblpdbldnnllaaGreatFmt
