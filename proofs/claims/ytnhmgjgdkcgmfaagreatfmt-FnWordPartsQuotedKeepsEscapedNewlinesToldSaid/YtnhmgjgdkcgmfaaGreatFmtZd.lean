/-
  n010_150: literals, quoted parts and words are printed; the concatenation of literals that are printed alone.
-/
import Derived.Test.YtnhmgjgdkcgmfaaGreatFmtZc
import Derived.Test.YtnhmgjgdkcgmfaaGreatFmtZa
import Derived.Test.YtnhmgjgdkcgmfaaGreatFmtQz
namespace Go.Proofs.YtnhmgjgdkcgmfaaGreatFmt
open Go.RowKit

/-- A text that the printer's tabwriter hands on as it is. -/
def TwText (s : ByteArray) : Prop := ∀ x ∈ s.data.toList, twOk x = true ∧ x ≠ 9

theorem TwText.ok {T : Sink} (hT : TOk T) {s : ByteArray} (h : TwText s) : ∀ x ∈ s.data.toList, T.okb x = true ∧ x ≠ 9 := fun x hx => ⟨hT.ok x (h x hx).1, (h x hx).2⟩

set_option maxRecDepth 100000 in
set_option maxHeartbeats 2000000 in
theorem z_printLit (s : ByteArray) (line : Nat) (mi : Bool) (hs : TwText s) (hz : s.size ≤ 1048576) (w : World) :
    Calls Tryz.prog 20 #[.string s, .int .u64 (line : Int), .bool mi] w fun e w' => e = .returned (.tuple #[.string ⟨(litText s.data.toList).toArray⟩, .bool true]) ∧ Upd (fun _ => False) w w' := by
  obtain ⟨Q, HQ, HC⟩ := callsVar (z_lit s line w)
  have hl := litText_len s
  have HS := Lib.hid (And.intro hs (And.intro hz hl))
  clear hs hz hl
  go_enter Tryz.func20, Tryz.ntmps20
  go_wp2_with (go_at_call 25; refine HC.out.mono ?_)
  rintro e w1 hq
  obtain ⟨lb, rfl, hlb, hlo, hu1⟩ := HQ.out e w1 hq
  clear hq
  have HP := Lib.hid (z_part mi (w := w1) (l := litText s.data.toList) (by have := HS.out.2; unfold LIM; omega) partTy_lit (nb := lb) (o := 0) (lc := lcP line) (lcP_lt line)
    (fun hT hcar hX => lit_pos (hX.at (hcar _ _ hlo)))
    (fun hT hcar hX => (v_wordPart_lit hT hX (p := litZ lb line s) (hcar _ _ hlo) .nilIface (HS.out.1.ok hT) (by have := HS.out.2.1; unfold LIM; show [].length + s.size + 1 ≤ _; simp only [List.length_nil]; omega)).mono fun e w' ⟨he, hx⟩ => ⟨he, _, hx⟩))
  have HU := Lib.hid hu1
  clear hlb hlo hu1
  go_wp2_with (go_at_call 17; refine HP.out.mono ?_; rintro e w2 ⟨rfl, hu2⟩; have HU2 := Lib.hid hu2; clear hu2)
  go_ret2
  exact ⟨rfl, HU.out.trans HU2.out⟩


theorem partsZ_text {w : World} {rb : Nat} {ps : List LitP} {vals : List ByteArray} {lines : List Nat} (h : PartsZ w rb ps vals lines) : partsText ps = vals.flatMap fun s => litText s.data.toList := by
  rw [← h.2.1, List.flatMap_map]
  rfl
theorem partsZ_size {w : World} {rb : Nat} {ps : List LitP} {vals : List ByteArray} {lines : List Nat} (h : PartsZ w rb ps vals lines) : partsSize ps = (vals.map ByteArray.size).sum + vals.length := by
  rw [← h.2.1]
  clear h
  induction ps with
  | nil => rfl
  | cons p r ih =>
    simp only [partsSize, List.map_cons, List.sum_cons, List.map_map, List.length_cons, List.length_map] at ih ⊢
    rw [ih]
    omega
theorem partsZ_len {w : World} {rb : Nat} {ps : List LitP} {vals : List ByteArray} {lines : List Nat} (h : PartsZ w rb ps vals lines) : ps.length = vals.length := by rw [← h.2.1, List.length_map]

/-- The text of double-quoted literals on lines. -/
def dblZ (dollar : Bool) (L R : Nat) (vals : List ByteArray) (lines : List Nat) : List UInt8 :=
  (if dollar then [36] else []) ++ [34] ++ qZ L (vals.zip lines) ++ nls (clampL R - qZl L (vals.zip lines)) ++ [34]

theorem dblZ_len (dollar : Bool) (L R : Nat) (vals : List ByteArray) (lines : List Nat) (hl : vals.length ≤ 1048576) (hz : (vals.map ByteArray.size).sum ≤ 1048576) : (dblZ dollar (clampL L) R vals lines).length ≤ 4000000 := by
  have h1 := qZ_len (clampL L) (vals.zip lines)
  have h2 := zip_sum vals lines
  have h3 := qZl_le (vals.zip lines) (clampL_le L)
  have h4 := clampL_le R
  have h5 : (if dollar then [36] else ([] : List UInt8)).length ≤ 1 := by cases dollar <;> simp
  unfold dblZ
  simp only [List.length_append, List.length_singleton, nls_len]
  omega

set_option maxRecDepth 100000 in
set_option maxHeartbeats 2000000 in
theorem z_printDbl {w : World} {vv lv : Value} {vals : List ByteArray} {lines : List Nat} (dollar mi : Bool) (L R : Nat) (hv : StrsRd w vv vals) (hL : UintsRd w lv lines) (hlen : lines.length = vals.length) (hl : vals.length ≤ 1048576) (hs : ∀ s ∈ vals, TwText s) (hz : (vals.map ByteArray.size).sum ≤ 1048576) :
    Calls Tryz.prog 12 #[vv, lv, .bool dollar, .int .u64 (L : Int), .int .u64 (R : Int), .bool mi] w fun e w' => e = .returned (.tuple #[.string ⟨(dblZ dollar (clampL L) R vals lines).toArray⟩, .bool true]) ∧ Upd (fun _ => False) w w' := by
  have HN1 := Lib.hid (new_pos 0 L (by omega) w)
  have HN2 := Lib.hid (fun W => new_pos 0 R (by omega) W)
  have HLp := Lib.hid (fun W (hW : Upd (fun _ => False) w W) => z_litParts (hv.quiet hW) (hL.quiet hW) hlen hl)
  have HS := Lib.hid (And.intro hs (And.intro hz (And.intro hlen hl)))
  clear hs hz hl hv hL hlen
  go_enter Tryz.func12, Tryz.ntmps12
  go_wp2_with (first
    | (go_at_call 18; refine HN1.out.mono ?_; rintro e w1 ⟨rfl, hu1⟩; have HU1 := Lib.hid hu1; clear hu1 HN1)
    | (go_at_call 18; refine (HN2.out _).mono ?_; rintro e w2 ⟨rfl, hu2⟩; have HU2 := Lib.hid (HU1.out.trans hu2); clear hu2 HN2
       obtain ⟨Q, HQ, HC⟩ := callsVar (HLp.out _ HU2.out))
    | (go_at_call 19; refine HC.out.mono ?_))
  rintro e w3 hq
  obtain ⟨rb, ps, rfl, hps, hu3⟩ := HQ.out e w3 hq
  clear hq
  have hdb : (w3.alloc (dblO 0 (lcP L) 0 (lcP R) dollar (.slice (some ⟨rb, 0, none⟩) vals.length vals.length))).heap[w3.heap.size]? = some (dblO 0 (lcP L) 0 (lcP R) dollar (.slice (some ⟨rb, 0, none⟩) vals.length vals.length)) := heap_alloc_new _ _
  have hu4 : Upd (fun _ => False) w3 (w3.alloc (dblO 0 (lcP L) 0 (lcP R) dollar (.slice (some ⟨rb, 0, none⟩) vals.length vals.length))) := (Upd.refl _ w3).alloc _
  have hpl := partsZ_len hps
  have hps2 : PartsX (fun k o => (w3.alloc (dblO 0 (lcP L) 0 (lcP R) dollar (.slice (some ⟨rb, 0, none⟩) vals.length vals.length))).heap[k]? = some o) rb ps := ⟨hu4.heap hps.1.1 fun h => h, fun p hp => ⟨hu4.heap (hps.1.2 p hp).1 fun h => h, (hps.1.2 p hp).2⟩⟩
  have hD : ∀ {A : Nat → Obj → Prop}, (∀ k o, (w3.alloc (dblO 0 (lcP L) 0 (lcP R) dollar (.slice (some ⟨rb, 0, none⟩) vals.length vals.length))).heap[k]? = some o → A k o) → DblX A w3.heap.size 0 (lcP L) 0 (lcP R) dollar rb ps := fun {A} hA => by
    by_cases h0 : ps = []
    · refine .inl ⟨h0, some ⟨rb, 0, none⟩, vals.length, hA _ _ ?_⟩
      rw [h0, List.length_nil] at hpl
      rw [hdb, ← hpl]
    · refine .inr ⟨h0, ⟨hA _ _ hps2.1, fun p hp => ⟨hA _ _ (hps2.2 p hp).1, (hps2.2 p hp).2⟩⟩, vals.length, hA _ _ ?_⟩
      rw [hpl]
      exact hdb
  have hM : ∀ p ∈ ps, p.ln ≤ 262143 := fun p hp => by
    have h1 : p.l1 ∈ lines.map lcP := by rw [← hps.2.2]; exact List.mem_map_of_mem hp
    obtain ⟨x, _, hx⟩ := List.mem_map.1 h1
    show p.l1 / 16384 ≤ _
    rw [← hx, lcP_line]
    exact clampL_le x
  have htx : dblText dollar (clampL L) ps (lcP R / 16384) = dblZ dollar (clampL L) R vals lines := by
    rw [lcP_line]
    unfold dblText dblZ
    have h1 := qZ_parts hps (clampL L) HS.out.2.2.1
    rw [h1.1, h1.2]
  have hsz := partsZ_size hps
  have hlen2 : (dblZ dollar (clampL L) R vals lines).length + 1 ≤ LIM := by
    rw [← htx, lcP_line]
    have h1 := qText_len (clampL L) ps
    have h2 := qLn_le ps hM (clampL_le L)
    have h3 := clampL_le R
    have h4 := HS.out
    have h5 : (if dollar then [36] else ([] : List UInt8)).length ≤ 1 := by cases dollar <;> simp
    unfold dblText LIM
    simp only [List.length_append, List.length_singleton, nls_len]
    omega
  have htw : ∀ p ∈ ps, TwText p.v := fun p hp => HS.out.1 p.v (by rw [← hps.2.1]; exact List.mem_map_of_mem hp)
  have HP := Lib.hid (z_part mi (l := dblZ dollar (clampL L) R vals lines) hlen2 partTy_dbl (nb := w3.heap.size) (o := 0) (lc := lcP L) (lcP_lt L)
    (fun hT hcar hX => dbl_pos (hX.at (hcar _ _ hdb)))
    (fun {T pb b tv B W} hT hcar hX => by
      have := v_wordPart_dbl hT hX (M := 262143) (hD hcar) rfl (fun p hp => (htw p hp).ok hT) hM (lcP_lt R) (by show lcP L / 16384 ≤ _; rw [lcP_line]; exact clampL_le L) (by rw [lcP_line]; exact clampL_le R) (by omega) (by
        have h4 := HS.out
        unfold LIM
        simp only [List.length_nil]
        omega) .nilIface
      refine this.mono fun e w' ⟨he, hx⟩ => ⟨he, _, hx.cast ?_ rfl⟩
      rw [List.nil_append, ← htx]
      show dblText dollar (lcP L / 16384) ps _ = _
      rw [lcP_line]))
  have HU := Lib.hid ((HU2.out.trans hu3).trans hu4)
  clear hps hdb hu3 hu4 hpl hps2 hD hM htx hsz hlen2 htw
  go_wp2_with (go_at_call 17; refine HP.out.mono ?_; rintro e w5 ⟨rfl, hu5⟩; have HU5 := Lib.hid hu5; clear hu5)
  go_ret2
  exact ⟨rfl, HU.out.trans HU5.out⟩
end Go.Proofs.YtnhmgjgdkcgmfaaGreatFmt
