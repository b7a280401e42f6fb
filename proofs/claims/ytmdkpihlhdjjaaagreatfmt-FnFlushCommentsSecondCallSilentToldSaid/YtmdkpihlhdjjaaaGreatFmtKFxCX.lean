/-
  The Printer with comments to print, its writer behind the column counter: what its methods write.
  spacePad behind the column counter, ahead of the first column.
-/
import Derived.Test.YtmdkpihlhdjjaaaGreatFmtKFxN
import Derived.Defers
import Derived.Lib.ConvBytes
import Derived.Test.YtmdkpihlhdjjaaaGreatFmtKWdX
namespace Go.Proofs.YtmdkpihlhdjjaaaGreatFmt
open Go.RowKit

section
variable {T : Sink} {pb b : Nat} {K : Nat} {pc : Value} {B : Base} {w : World} {l : List UInt8} {v : VS} {cl : Bool}

set_option maxRecDepth 100000 in
theorem cv_bytes (s : ByteArray) (w : World) : ∃ c w1, (convert 9 31 (.string s)).run Tryz.prog w = .ok (.slice (some ⟨w.heap.size, 0, none⟩) s.size c) w1 ∧ Upd (fun _ => False) w w1 ∧ ∀ j (hj : j < s.size), w1.cell? ⟨w.heap.size, j, none⟩ = some (.int .u8 ((s[j]'hj).toNat : Int)) := by
  refine ⟨_, _, Lib.run_convert_string_bytes (P := Tryz.prog) w 9 31 5 s (u := .string) Tryz.underlying9 Tryz.underlying31 Tryz.underlying5, ⟨rfl, rfl, rfl, by rw [Lib.bytesWorld_size]; omega, fun k hk _ => Lib.bytesWorld_at_old w _ s k hk⟩, fun j hj => ?_⟩
  rw [Lib.bytesWorld_cell w _ s j hj, List.getD_eq_getElem?_getD, List.getElem?_eq_getElem (show j < s.data.toList.length from hj)]
  rfl
theorem cc_meth_ws (pb : Nat) : ∀ w, (method 561 281 (.pointer (some ⟨pb, 2, none⟩)) "WriteString").run Tryz.prog w = .ok (344, .pointer (some ⟨pb, 2, none⟩)) w := fun w => by kernel_rfl
theorem cc_ahead_ws (pb : Nat) : ∀ w, (nilAhead 561 281 (.pointer (some ⟨pb, 2, none⟩)) "WriteString").run Tryz.prog w = .ok (some false) w := fun w => by kernel_rfl

/-- The column behind a byte. -/
def ccN (cc : Int) (c : UInt8) : Int := (if c = 10 then 0 else cc) + 1
theorem ccN_le {cc : Int} {M : Int} (c : UInt8) (h0 : 0 ≤ cc) (h : cc ≤ M) : 0 ≤ ccN cc c ∧ ccN cc c ≤ M + 1 := by
  unfold ccN
  split <;> omega

set_option maxRecDepth 100000 in
set_option maxHeartbeats 4000000 in
theorem c_add (hT : TOk T) {F : Nat → Prop} {h : VH} {cc : Int} (x : FXr T pb b true pc B w F h cc l v cl) (h0 : 0 ≤ cc) (h1 : cc ≤ 4398046511104) (c : UInt8) {X : Int} (hX : X = (c.toNat : Int)) :
    Calls Tryz.prog 345 #[.pointer (some ⟨pb, 2, none⟩), .int .u8 X] w fun e w' => e = .returned (.tuple #[]) ∧ FXr T pb b true pc B w' F h (ccN cc c) l v (addB cl c) ∧ Upd (fun k => k = pb) w w' := by
  have c3 : w.cell? ⟨pb, 3, none⟩ = some (.int .i64 cc) := (cell_at x.cell 3).trans rfl
  have c4 : w.cell? ⟨pb, 4, none⟩ = some (.bool cl) := (cell_at x.cell 4).trans rfl
  have f3 : w.frozen? ⟨pb, 3, none⟩ = false := frozen_at x.cell 3
  have f4 : w.frozen? ⟨pb, 4, none⟩ = false := frozen_at x.cell 4
  have HX := Lib.hid x
  clear x
  by_cases e10 : c = 10
  · subst e10
    obtain rfl : X = 10 := hX
    go_enter Tryz.func345, Tryz.ntmps345
    go_wp2
    go_end0
    have hu : Upd (fun k => k = pb) w (((w.setCell ⟨pb, 3, none⟩ (.int .i64 0)).setCell ⟨pb, 4, none⟩ (.bool true)).setCell ⟨pb, 3, none⟩ (.int .i64 1)) :=
      (((Upd.refl (fun k => k = pb) w).setCell (p := ⟨pb, 3, none⟩) (.inl rfl) _).setCell (p := ⟨pb, 4, none⟩) (.inl rfl) _).setCell (p := ⟨pb, 3, none⟩) (.inl rfl) _
    exact ⟨rfl, HX.out.cells hT ((heap_setCell_at _ (heap_setCell_at _ (heap_setCell_at _ HX.out.cell))).trans (by simp [fxC, ccN, addB])) hu ⟨rfl, rfl⟩ rfl, hu⟩
  have h10 : (X == 10) = false := by rw [hX]; exact ne_int (d := 10) e10
  have hccN : ccN cc c = cc + 1 := by simp [ccN, e10]
  have HN := Lib.hid hccN
  clear hccN
  have hend : ∀ cl', addB cl c = cl' → cl' = cl → FXr T pb b true pc B (w.setCell ⟨pb, 3, none⟩ (.int .i64 (cc + 1))) F h (ccN cc c) l v (addB cl c) ∧ Upd (fun k => k = pb) w (w.setCell ⟨pb, 3, none⟩ (.int .i64 (cc + 1))) := fun cl' h1 h2 => by
    have hu : Upd (fun k => k = pb) w (w.setCell ⟨pb, 3, none⟩ (.int .i64 (cc + 1))) := (Upd.refl (fun k => k = pb) w).setCell (p := ⟨pb, 3, none⟩) (.inl rfl) _
    rw [h1, h2, HN.out]
    exact ⟨HX.out.cells hT ((heap_setCell_at _ HX.out.cell).trans (by simp [fxC])) hu ⟨rfl, rfl⟩ rfl, hu⟩
  have HE := Lib.hid hend
  clear hend
  by_cases e9 : c = 9
  · subst e9
    obtain rfl : X = 9 := hX
    clear h10
    go_enter Tryz.func345, Tryz.ntmps345
    go_wp2
    go_end0
    exact ⟨rfl, HE.out _ rfl (by simp [addB])⟩
  have h9 : (X == 9) = false := by rw [hX]; exact ne_int (d := 9) e9
  by_cases e32 : c = 32
  · subst e32
    obtain rfl : X = 32 := hX
    clear h10 h9
    go_enter Tryz.func345, Tryz.ntmps345
    go_wp2
    go_end0
    exact ⟨rfl, HE.out _ rfl (by simp [addB])⟩
  have h32 : (X == 32) = false := by rw [hX]; exact ne_int (d := 32) e32
  by_cases e255 : c = 255
  · subst e255
    obtain rfl : X = 255 := hX
    clear h10 h9 h32
    go_enter Tryz.func345, Tryz.ntmps345
    go_wp2
    go_end0
    exact ⟨rfl, HE.out _ rfl (by simp [addB])⟩
  have h255 : (X == 255) = false := by rw [hX]; exact ne_int (d := 255) e255
  have HB : RowKit.Hid (addB cl c = false) := Lib.hid (by simp [addB, e10, e9, e32, e255])
  clear hX e10 e9 e32 e255 HE
  go_enter Tryz.func345, Tryz.ntmps345
  go_wp2
  go_end0
  have hu : Upd (fun k => k = pb) w ((w.setCell ⟨pb, 4, none⟩ (.bool false)).setCell ⟨pb, 3, none⟩ (.int .i64 (cc + 1))) :=
    ((Upd.refl (fun k => k = pb) w).setCell (p := ⟨pb, 4, none⟩) (.inl rfl) _).setCell (p := ⟨pb, 3, none⟩) (.inl rfl) _
  rw [HB.out, HN.out]
  exact ⟨rfl, HX.out.cells hT ((heap_setCell_at _ (heap_setCell_at _ HX.out.cell)).trans (by simp [fxC])) hu ⟨rfl, rfl⟩ rfl, hu⟩

set_option maxRecDepth 100000 in
set_option maxHeartbeats 2000000 in
theorem c_wb (hT : TOk T) (hok : (∀ c, T.okb c = true) ∧ K ≤ LIM) (h : FX T pb b true K pc B w l v cl) (c : UInt8) {x : Int} (hx : x = (c.toNat : Int)) (hl : l.length < LIM) :
    Calls Tryz.prog 343 #[.pointer (some ⟨pb, 2, none⟩), .int .u8 x] w fun e w' => e = .returned .nilIface ∧ FX T pb b true K pc B w' (l ++ [c]) v (clOf true cl [c]) := by
  obtain ⟨F, hh, cc, y, y1, y2, _⟩ := h
  have c2 : w.cell? ⟨pb, 2, none⟩ = some (.pointer (some ⟨b, 0, none⟩)) := (cell_at y.cell 2).trans rfl
  have HA := Lib.hid (c_add hT y y1 (by have := hok.2; unfold LIM at hl this; omega) c hx)
  have HY := Lib.hid (And.intro y1 (And.intro y2 (And.intro hx hl)))
  clear y y1 y2 hx hl
  go_enter Tryz.func343, Tryz.ntmps343
  go_wp2_with (go_at_call 345; refine HA.out.mono ?_)
  rintro e w1 ⟨rfl, x1, _⟩
  have d2 : w1.cell? ⟨pb, 2, none⟩ = some (.pointer (some ⟨b, 0, none⟩)) := (cell_at x1.cell 2).trans rfl
  have HW := Lib.hid (wb_any hT.law c HY.out.2.2.1 x1.buf (hok.1 c) HY.out.2.2.2)
  have X1 := Lib.hid x1
  clear x1 HA
  go_wp2_with (go_at_call 242; refine HW.out.mono ?_)
  rintro e w2 ⟨rfl, F', h1, h2, h3⟩
  have HE := Lib.hid (X1.out.wrote h1 h2 h3)
  clear h1 h2 h3 HW
  go_wp2
  go_ret
  have hb := ccN_le c HY.out.1 HY.out.2.1
  exact ⟨rfl, F', hh, _, HE.out, hb.1, by have := hb.2; rw [List.length_append, List.length_singleton]; omega, fun h => by cases h⟩

set_option maxRecDepth 100000 in
set_option maxHeartbeats 2000000 in
theorem c_wbd (hT : TOk T) (hok : (∀ c, T.okb c = true) ∧ K ≤ LIM) {u : FrameMode} (h : FX T pb b true K pc B w l v cl) (c : UInt8) {x : Int} (hx : x = (c.toNat : Int)) (hl : l.length < LIM) :
    CallsD Tryz.prog 343 #[.pointer (some ⟨pb, 2, none⟩), .int .u8 x] u w fun e u' w' => u' = u ∧ e = .returned .nilIface ∧ FX T pb b true K pc B w' (l ++ [c]) v (clOf true cl [c]) := by
  obtain ⟨F, hh, cc, y, y1, y2, _⟩ := h
  have c2 : w.cell? ⟨pb, 2, none⟩ = some (.pointer (some ⟨b, 0, none⟩)) := (cell_at y.cell 2).trans rfl
  have HA := Lib.hid (c_add hT y y1 (by have := hok.2; unfold LIM at hl this; omega) c hx)
  have HY := Lib.hid (And.intro y1 (And.intro y2 (And.intro hx hl)))
  clear y y1 y2 hx hl
  go_enter_d Tryz.func343, Tryz.ntmps343
  go_wp2_with (go_at_call 345; refine HA.out.mono ?_)
  rintro e w1 ⟨rfl, x1, _⟩
  have d2 : w1.cell? ⟨pb, 2, none⟩ = some (.pointer (some ⟨b, 0, none⟩)) := (cell_at x1.cell 2).trans rfl
  have HW := Lib.hid (wb_any hT.law c HY.out.2.2.1 x1.buf (hok.1 c) HY.out.2.2.2)
  have X1 := Lib.hid x1
  clear x1 HA
  go_wp2_with (go_at_call 242; refine HW.out.mono ?_)
  rintro e w2 ⟨rfl, F', h1, h2, h3⟩
  have HE := Lib.hid (X1.out.wrote h1 h2 h3)
  clear h1 h2 h3 HW
  go_wp2
  go_ret
  have hb := ccN_le c HY.out.1 HY.out.2.1
  exact ⟨rfl, F', hh, _, HE.out, hb.1, by have := hb.2; rw [List.length_append, List.length_singleton]; omega, fun h => by cases h⟩

/-- What is kept while the text's bytes are counted. -/
def CwInv (T : Sink) (pb b : Nat) (K : Nat) (pc : Value) (B : Base) (l : List UInt8) (v : VS) (cl : Bool) (t : List UInt8) (j : Nat) (w : World) : Prop :=
  ∃ F h cc, FXr T pb b true pc B w F h cc l v (clOf true cl (t.take j)) ∧ 0 ≤ cc ∧ cc ≤ ((K + l.length + j : Nat) : Int)

set_option maxRecDepth 100000 in
set_option maxHeartbeats 4000000 in
theorem c_ws (hT : TOk T) (hok : (∀ c, T.okb c = true) ∧ K ≤ LIM) (h : FX T pb b true K pc B w l v cl) (t : ByteArray) (hl : l.length + t.size ≤ LIM) :
    Calls Tryz.prog 344 #[.pointer (some ⟨pb, 2, none⟩), .string t] w fun e w' => e = .returned (.tuple #[.int .i64 (t.size : Int), .nilIface]) ∧ FX T pb b true K pc B w' (l ++ t.data.toList) v (clOf true cl t.data.toList) := by
  obtain ⟨c, w1, hcv, hu1, hcells⟩ := cv_bytes t w
  have hlt := h.lt
  have hstart : CwInv T pb b K pc B l v cl t.data.toList 0 w1 := by
    obtain ⟨F, hh, cc, y, y1, y2, _⟩ := h
    exact ⟨F, hh, cc, by rw [List.take_zero, clOf_nil]; exact y.quiet hT hu1, y1, y2⟩
  have HSt := Lib.hid hstart
  have HCs := Lib.hid (fun (W : World) (hW : Upd (fun k => k = pb) w1 W) (j : Nat) (hj : j < t.size) => hW.cell (hcells j hj) (by show ¬ w.heap.size = pb; omega))
  have htI : (t.size : Int) ≤ 1099511627776 := by unfold LIM at hl; omega
  have HL := Lib.hid hl
  clear h hstart hcells hu1 hl hlt
  go_enter Tryz.func344, Tryz.ntmps344
  go_wp2_with fail
  go_loopg [11] (t.size) (fun k v11 wr => ∃ j : Nat, v11 = .int .i64 (j : Int) ∧ j + k = t.size ∧ Upd (fun k => k = pb) w1 wr ∧ CwInv T pb b K pc B l v cl t.data.toList j wr)
  case atStart => exact ⟨0, rfl, by omega, Upd.refl _ _, HSt.out⟩
  case round =>
    obtain ⟨j, rfl, hjk, hu, F, hh, cc, y, y1, y2⟩ := hrel
    have HJ := Lib.hid (And.intro hjk hu)
    by_cases hlt : j < t.size
    · have hltI : (j : Int) < (t.size : Int) := by omega
      have c1 := HCs.out wr hu j hlt
      have HA := Lib.hid (c_add hT y y1 (by have h1 := hok.2; have h2 := HL.out; unfold LIM at h1 h2; omega) (t[j]'hlt) rfl)
      have HY := Lib.hid (And.intro y1 y2)
      clear y y1 y2 hjk hu
      go_wp2_with (go_at_call 345; refine HA.out.mono ?_)
      rintro e w2 ⟨rfl, x2, hu2⟩
      have X2 := Lib.hid (And.intro x2 hu2)
      clear x2 hu2 HA
      go_wp2_with fail
      go_roundg (t.size - (j + 1))
      case measure => have := HJ.out.1; omega
      case rel =>
        have hb := ccN_le (t[j]'hlt) HY.out.1 HY.out.2
        refine ⟨j + 1, by go_num, by have := HJ.out.1; omega, HJ.out.2.trans X2.out.2, F, hh, _, ?_, hb.1, by have := hb.2; omega⟩
        rw [List.take_succ_eq_append_getElem (show j < t.data.toList.length from hlt), clOf_append]
        exact X2.out.1
    · obtain rfl : j = t.size := by omega
      have hltI : ¬ (t.size : Int) < (t.size : Int) := by omega
      have d2 : wr.cell? ⟨pb, 2, none⟩ = some (.pointer (some ⟨b, 0, none⟩)) := (cell_at y.cell 2).trans rfl
      have HW := Lib.hid (hT.wstr t y.buf (fun c _ => hok.1 c) HL.out)
      have HY := Lib.hid (And.intro y (And.intro y1 y2))
      clear y y1 y2 hjk hu
      go_wp2_with (go_at_call 243; refine HW.out.mono ?_)
      rintro e w3 rfl F' g1 g2 g3
      have HE := Lib.hid (HY.out.1.wrote g1 g2 g3)
      clear g1 g2 g3 HW
      go_wp2
      go_ret2
      refine ⟨rfl, F', hh, _, ?_, HY.out.2.1, by have := HY.out.2.2; rw [List.length_append, show t.data.toList.length = t.size from rfl]; omega, fun h => by cases h⟩
      have h1 := HE.out
      rw [show t.size = t.data.toList.length from rfl, List.take_length] at h1
      exact h1

set_option maxRecDepth 100000 in
set_option maxHeartbeats 1000000 in
theorem c_spaces (hT : TOk T) (hok : (∀ c, T.okb c = true) ∧ K ≤ LIM) (h : FX T pb b true K pc B w l v cl) (n : Nat) (hl : l.length + n ≤ LIM) :
    Calls Tryz.prog 139 #[.pointer (some ⟨pb, 0, none⟩), .int .u64 (n : Int)] w fun e w' => e = .returned (.tuple #[]) ∧ FX T pb b true K pc B w' (l ++ List.replicate n 32) v (clOf true cl (List.replicate n 32)) := by
  have hm := cc_meth_wb pb
  have ha := cc_ahead_wb pb
  have hn : (n : Int) ≤ 1099511627776 := by unfold LIM at hl; omega
  have HX := Lib.hid h
  have HL := Lib.hid hl
  clear h hl
  go_enter Tryz.func139, Tryz.ntmps139
  go_wp2_with fail
  go_loopg [5] n (fun k v5 wr => ∃ j : Nat, v5 = .int .u64 (j : Int) ∧ j + k = n ∧ FX T pb b true K pc B wr (l ++ List.replicate j 32) v (clOf true cl (List.replicate j 32)))
  case atStart => exact ⟨0, rfl, by omega, HX.out.cast (by simp) rfl (clOf_nil _ _).symm⟩
  case round =>
    obtain ⟨j, rfl, hjk, hX⟩ := hrel
    have HJ := Lib.hid hjk
    have c0 := hX.c0c
    by_cases hlt : j < n
    · have hltI : (j : Int) < (n : Int) := by omega
      have HW := Lib.hid (c_wb hT hok hX 32 (x := 32) rfl (by have := HL.out; rw [List.length_append, List.length_replicate]; omega))
      clear hX hjk
      go_wp2_with (go_at_call 343; refine HW.out.mono ?_; rintro e w1 ⟨rfl, h1⟩; have H1 := Lib.hid h1; clear h1 HW)
      go_roundg (n - (j + 1))
      case measure => have := HJ.out; omega
      case rel =>
        refine ⟨j + 1, by go_num, by omega, H1.out.cast ?_ rfl ?_⟩
        · rw [List.replicate_succ', ← List.append_assoc]
        · rw [List.replicate_succ', clOf_append]
    · obtain rfl : j = n := by omega
      have HX2 := Lib.hid hX
      clear hX hjk
      go_wp2_with fail
      go_end0
      exact ⟨rfl, HX2.out⟩

set_option maxRecDepth 100000 in
set_option maxHeartbeats 4000000 in
theorem c_indent (hT : TOk T) (hok : (∀ c, T.okb c = true) ∧ K ≤ LIM) (h : FX T pb b true K pc B w l v cl) (hkl : v.k * v.lv ≤ 4294967296) (hlv : v.lv ≤ 4294967296) (hl : l.length + (mIndent v).length ≤ LIM) :
    Calls Tryz.prog 87 #[.pointer (some ⟨pb, 0, none⟩)] w fun e w' => e = .returned (.tuple #[]) ∧ FX T pb b true K pc B w' (l ++ mIndent v) (sIndent v) (clOf true cl (mIndent v)) := by
  have hm := cc_meth_wb pb
  have ha := cc_ahead_wb pb
  have c0 := h.c0c
  have c5 := h.c5
  have c10 := h.c10
  have c20 := h.c20
  have c21 := h.c21
  have f20 := h.fz 20
  cases hmi : v.mi
  · rw [hmi] at c10
    have h1 := h.setc hT (i := 20) (val := .int .u64 (v.lv : Int)) { v with ll := v.lv } (fun _ _ => rfl) rfl
    have hs : sIndent v = { v with ll := v.lv } := by simp [sIndent, hmi]
    by_cases h0 : v.lv = 0
    · have hout : mIndent v = [] := by simp [mIndent, h0]
      have H1 := Lib.hid h1
      have HO := Lib.hid (And.intro hs hout)
      have h0I : (v.lv : Int) = 0 := by omega
      clear h h1 hs hout hl
      rw [h0I] at c21
      rw [h0I] at H1
      clear h0 h0I
      go_enter Tryz.func87, Tryz.ntmps87
      go_wp2
      go_end0
      rw [HO.out.2, HO.out.1, List.append_nil, clOf_nil]
      exact ⟨rfl, H1.out⟩
    · have h0I : ((v.lv : Int) == 0) = false := by rw [beq_eq_false_iff_ne]; omega
      by_cases hk0 : v.k = 0
      · have hout : mIndent v = [255] ++ List.replicate v.lv 9 ++ [255] := by simp [mIndent, h0, hmi, hk0]
        have hlen : l.length + (v.lv + 2) ≤ LIM := by rw [hout] at hl; simp only [List.length_append, List.length_replicate, List.length_singleton] at hl; omega
        have HO := Lib.hid (And.intro hs hout)
        have HK := Lib.hid hlen
        have hlvI : (v.lv : Int) ≤ 4294967296 := by omega
        have hkI : (v.k : Int) = 0 := by omega
        rw [hkI] at c5
        have HW := Lib.hid (c_wb hT hok h1 255 (x := 255) rfl (by omega))
        clear h h1 hs hout hl hlen h0 hk0 hkI
        go_enter Tryz.func87, Tryz.ntmps87
        go_wp2_with (go_at_call 343; refine HW.out.mono ?_; rintro e w1 ⟨rfl, h1⟩; have H1 := Lib.hid h1; clear h1 HW)
        go_loopg [2] v.lv (fun k v2 wr => ∃ j : Nat, v2 = .int .u64 (j : Int) ∧ j + k = v.lv ∧ FX T pb b true K pc B wr (l ++ ([255] ++ List.replicate j 9)) { v with ll := v.lv } (clOf true cl ([255] ++ List.replicate j 9)))
        case atStart => exact ⟨0, rfl, by omega, H1.out.cast (by simp) rfl (by simp)⟩
        case round =>
          obtain ⟨j, rfl, hjk, hX⟩ := hrel
          have d0 := hX.c0c
          have d21 : wr.cell? ⟨pb, 21, none⟩ = some (.int .u64 (v.lv : Int)) := hX.c21
          have HJ := Lib.hid hjk
          by_cases hlt : j < v.lv
          · have hltI : (j : Int) < (v.lv : Int) := by omega
            have HW2 := Lib.hid (c_wb hT hok hX 9 (x := 9) rfl (by have := HK.out; simp only [List.length_append, List.length_replicate, List.length_singleton]; omega))
            clear hX hjk
            go_wp2_with (go_at_call 343; refine HW2.out.mono ?_; rintro e w2 ⟨rfl, h2⟩; have H2 := Lib.hid h2; clear h2 HW2)
            go_roundg (v.lv - (j + 1))
            case measure => have := HJ.out; omega
            case rel =>
              refine ⟨j + 1, by go_num, by omega, H2.out.cast ?_ rfl ?_⟩
              · rw [List.replicate_succ']
                simp only [List.append_assoc]
              · rw [List.replicate_succ', ← clOf_append]
                simp only [List.append_assoc]
          · have hltI : ¬ (j : Int) < (v.lv : Int) := by omega
            have HW2 := Lib.hid (c_wb hT hok hX 255 (x := 255) rfl (by have := HK.out; simp only [List.length_append, List.length_replicate, List.length_singleton]; omega))
            clear hX hjk
            go_wp2_with (go_at_call 343; refine HW2.out.mono ?_; rintro e w2 ⟨rfl, h2⟩; have H2 := Lib.hid h2; clear h2 HW2)
            go_end0
            have hjl : j = v.lv := by have := HJ.out; omega
            refine ⟨rfl, H2.out.cast ?_ ?_ ?_⟩
            · rw [HO.out.2, hjl]
              simp only [List.append_assoc]
            · rw [HO.out.1]
            · rw [HO.out.2, hjl, ← clOf_append]
      · have hkI : ((v.k : Int) == 0) = false := by rw [beq_eq_false_iff_ne]; omega
        have hout : mIndent v = List.replicate (v.k * v.lv) 32 := by simp [mIndent, h0, hmi, hk0]
        obtain ⟨n, hn⟩ : ∃ n, n = v.k * v.lv := ⟨_, rfl⟩
        have hmul : IntKind.u64.wrap ((v.k : Int) * (v.lv : Int)) = (n : Int) := by
          rw [hn, IntKind.wrap_u64, Int.natCast_mul]
          have h1 : (v.k : Int) * (v.lv : Int) ≤ 4294967296 := by rw [← Int.natCast_mul]; omega
          have h2 : 0 ≤ (v.k : Int) * (v.lv : Int) := by rw [← Int.natCast_mul]; omega
          omega
        have HS := Lib.hid (fun W (hW : Upd (fun _ => False) _ W) => c_spaces hT hok (h1.quiet hT hW) n (by rw [hn]; rw [hout, List.length_replicate] at hl; exact hl))
        have HO := Lib.hid (And.intro hs (And.intro hout hn))
        clear h h1 hs hout hl hkl h0 hk0 hn hlv
        go_enter Tryz.func87, Tryz.ntmps87
        go_wp2_with fail
        go_region_held3 (fun w' => w'.cell? ⟨pb, 5, none⟩ = some (.int .u64 (v.k : Int)) ∧ w'.cell? ⟨pb, 21, none⟩ = some (.int .u64 (v.lv : Int))) (first | (refine ⟨?_, ?_⟩ <;> simp [go_sem, *]; done) | exact ⟨k1, k2⟩ | simp [go_sem, *])
          (first
            | (go_at_call 139; refine (HS.out _ (Upd.refl _ _).drew).mono ?_; rintro e w1 ⟨rfl, h1⟩
               have k1 : w1.cell? ⟨pb, 5, none⟩ = some (.int .u64 (v.k : Int)) := h1.c5
               have k2 : w1.cell? ⟨pb, 21, none⟩ = some (.int .u64 (v.lv : Int)) := h1.c21
               have H1 := Lib.hid h1
               clear h1))
        go_wp2_with fail
        go_end0
        refine ⟨rfl, H1.out.cast ?_ ?_ ?_⟩
        · rw [HO.out.2.1, HO.out.2.2]
        · rw [HO.out.1]
        · rw [HO.out.2.1, HO.out.2.2]
  · rw [hmi] at c10
    have hs : sIndent v = v := by simp [sIndent, hmi]
    have hout : mIndent v = [] := by simp [mIndent, hmi]
    have H1 := Lib.hid h
    have HO := Lib.hid (And.intro hs hout)
    clear h hs hout hl
    go_enter Tryz.func87, Tryz.ntmps87
    go_wp2
    refine bodyPost_ret (v := .tuple #[]) (results_none rfl _ _ _) rfl ?_
    rw [HO.out.1, HO.out.2, List.append_nil, clOf_nil]
    exact ⟨rfl, H1.out⟩

set_option maxRecDepth 100000 in
set_option maxHeartbeats 1000000 in
theorem c_space (hT : TOk T) (hok : (∀ c, T.okb c = true) ∧ K ≤ LIM) (h : FX T pb b true K pc B w l v cl) (hl : l.length + 1 ≤ LIM) :
    Calls Tryz.prog 89 #[.pointer (some ⟨pb, 0, none⟩)] w fun e w' => e = .returned (.tuple #[]) ∧ FX T pb b true K pc B w' (l ++ [32]) { v with ws := 2 } (clOf true cl [32]) := by
  have c0 := h.c0c
  have hm := cc_meth_wb pb
  have ha := cc_ahead_wb pb
  have HW := Lib.hid (c_wb hT hok h 32 (x := 32) rfl (by omega))
  clear h hl
  go_enter Tryz.func89, Tryz.ntmps89
  go_wp2_with (go_at_call 343; refine HW.out.mono ?_)
  rintro e w1 ⟨rfl, h1⟩
  have d13 := h1.c13
  have f13 := h1.fz 13
  have H1 := Lib.hid h1
  clear h1
  go_wp2
  go_end0
  exact ⟨rfl, H1.out.setc hT { v with ws := 2 } (fun _ _ => rfl) rfl⟩

set_option maxRecDepth 100000 in
theorem c_advance (hT : TOk T) (h : FX T pb b true K pc B w l v cl) (L : Nat) :
    Calls Tryz.prog 69 #[.pointer (some ⟨pb, 0, none⟩), .int .u64 (L : Int)] w fun e w' => e = .returned (.tuple #[]) ∧ FX T pb b true K pc B w' l { v with ln := max v.ln L } cl := by
  have c19 := h.c19
  have f19 := h.fz 19
  have hmax : max (v.ln : Int) (L : Int) = ((max v.ln L : Nat) : Int) := by omega
  have HA := Lib.hid h
  clear h
  go_enter Tryz.func69, Tryz.ntmps69
  go_wp2
  go_end0
  exact ⟨rfl, HA.out.setc hT { v with ln := max v.ln L } (fun _ _ => rfl) rfl⟩

set_option maxRecDepth 100000 in
theorem c_fh (h : FX T pb b true K pc B w l v cl) :
    Calls Tryz.prog 46 #[.pointer (some ⟨pb, 0, none⟩)] w fun e w' => e = .returned (.tuple #[]) ∧ w = w' := by
  obtain ⟨a, c, c24⟩ := h.c24
  clear h
  go_enter Tryz.func46, Tryz.ntmps46
  go_wp2
  refine bodyPost_ret (v := .tuple #[]) (results_none rfl _ _ _) rfl ?_
  exact ⟨rfl, rfl⟩

set_option maxRecDepth 100000 in
set_option maxHeartbeats 2000000 in
theorem c_writeLit0 (hT : TOk T) (hok : (∀ c, T.okb c = true) ∧ K ≤ LIM) (h : FX T pb b true K pc B w l v cl) (t : ByteArray) (h9 : ∀ c ∈ t.data.toList, c ≠ 9) (hl : l.length + t.size ≤ LIM) :
    Calls Tryz.prog 103 #[.pointer (some ⟨pb, 0, none⟩), .string t] w fun e w' => e = .returned (.tuple #[]) ∧ FX T pb b true K pc B w' (l ++ t.data.toList) v (clOf true cl t.data.toList) := by
  have c0 := h.c0c
  have hta := fun w => asrt_other (P := Tryz.prog) Tryz.underlying276 (by kernel_rfl) (t := 281) (by decide) 84 (.pointer (some ⟨pb, 2, none⟩)) w
  have HC := Lib.hid (zz_contains_no t 9 h9 (by unfold LIM at hl; omega) w)
  have HW := Lib.hid (c_ws hT hok h t hl)
  have hm := cc_meth_ws pb
  have ha := cc_ahead_ws pb
  clear h h9 hl
  go_enter Tryz.func103, Tryz.ntmps103
  go_wp2_with (first
    | (go_at_call 143; refine HC.out.mono ?_; rintro e w1 ⟨rfl, rfl⟩)
    | (go_at_call 344; refine HW.out.mono ?_))
  rintro e w1 ⟨rfl, h1⟩
  have H1 := Lib.hid h1
  clear h1
  go_wp2
  go_end0
  exact ⟨rfl, H1.out⟩

set_option maxRecDepth 100000 in
set_option maxHeartbeats 4000000 in
theorem c_writeLit1 (hT : TOk T) (hok : (∀ c, T.okb c = true) ∧ K ≤ LIM) (h : FX T pb b true K pc B w l v cl) (t : ByteArray) (h9 : 9 ∈ t.data.toList) (hl : l.length + t.size + 2 ≤ LIM) :
    Calls Tryz.prog 103 #[.pointer (some ⟨pb, 0, none⟩), .string t] w fun e w' => e = .returned (.tuple #[]) ∧ FX T pb b true K pc B w' (l ++ ([255] ++ t.data.toList ++ [255])) v (clOf true cl ([255] ++ t.data.toList ++ [255])) := by
  have c0 := h.c0c
  have hta := fun w => asrt_other (P := Tryz.prog) Tryz.underlying276 (by kernel_rfl) (t := 281) (by decide) 84 (.pointer (some ⟨pb, 2, none⟩)) w
  have HC := Lib.hid (zz_contains_yes t 9 h9 (by unfold LIM at hl; omega) w)
  have HW1 := Lib.hid (c_wb hT hok h 255 (x := 255) rfl (by omega))
  have HL := Lib.hid hl
  have hts : t.data.toList.length = t.size := rfl
  have HTs := Lib.hid hts
  have hm := cc_meth_ws pb
  have ha := cc_ahead_ws pb
  have hm2 := cc_meth_wb pb
  have ha2 := cc_ahead_wb pb
  clear h h9 hl hts
  go_enter_defers Tryz.func103, Tryz.ntmps103
  go_wp2_with (first
    | (go_at_call 143; refine HC.out.mono ?_; rintro e w1 ⟨rfl, rfl⟩)
    | (go_at_call 343; refine HW1.out.mono ?_; rintro e w1 ⟨rfl, h1⟩
       have d0 := h1.c0c
       have HW2 := Lib.hid (c_ws hT hok h1 t (by have := HL.out; rw [List.length_append, List.length_singleton]; omega))
       clear h1 HW1)
    | (go_at_call 344; refine HW2.out.mono ?_; rintro e w2 ⟨rfl, h2⟩; have H2 := Lib.hid h2; clear h2 HW2))
  refine leaves_cons (f := 343) (args := #[.pointer (some ⟨pb, 2, none⟩), .int .u8 255]) (by simp) (by simp [go_sem, hm2]) ?_
  refine (c_wbd hT hok H2.out 255 (x := 255) rfl (by have h1 := HL.out; have h2 := HTs.out; simp only [List.length_append, List.length_singleton]; omega)).mono ?_
  rintro e u' w3 ⟨rfl, rfl, h3⟩
  exact ⟨_, results_none rfl _ _ _, rfl, h3.cast (l' := l ++ ([255] ++ t.data.toList ++ [255])) (by simp) rfl (cl' := clOf true cl ([255] ++ t.data.toList ++ [255])) (by rw [clOf_append, clOf_append])⟩

end
end Go.Proofs.YtmdkpihlhdjjaaaGreatFmt

namespace Go.Proofs.YtmdkpihlhdjjaaaGreatFmt
open Go.RowKit

section
variable {T : Sink} {pb b : Nat} {K : Nat} {pc : Value} {B : Base} {w : World} {l : List UInt8} {v : VS} {cl : Bool}

set_option maxRecDepth 100000 in
set_option maxHeartbeats 8000000 in
theorem c_spacePad (hT : TOk T) (hok : (∀ c, T.okb c = true) ∧ K ≤ LIM) (h : FX T pb b true K pc B w l v cl) (o lc : Nat) (hlc : lc < 4294967296) (hlc1 : lc % 16384 = 1) (hl : l.length + 1 ≤ LIM) :
    Calls Tryz.prog 71 #[.pointer (some ⟨pb, 0, none⟩), posV o lc] w fun e w' => e = .returned (.tuple #[]) ∧ FX T pb b true K pc B w' (l ++ cpT cl v) { v with ws := cpW cl v } (clOf true cl (cpT cl v)) := by
  obtain ⟨B', h1, hback, _, hAt⟩ := h.base hT ((Upd.refl (fun _ => False) w).alloc (.cells #[.int .u32 (o : Int), .int .u32 (lc : Int)] 40))
  have hbox := hAt w.heap.size _ (Nat.le_refl _) (heap_alloc_new w _)
  have hlt := h.lt
  have c4 := h.c4
  have c5 := h.c5
  have c13 := h.c13
  have c0 := h.c0c
  have hm := cc_meth_wb pb
  have ha := cc_ahead_wb pb
  have HBk := Lib.hid (And.intro hback hbox)
  have HPc := Lib.hid (fun W => pos_col1 o lc hlc hlc1 W)
  clear hback hbox hAt hlc hlc1
  have H0 := Lib.hid h
  cases hsk : cl && decide (v.k = 0)
  case true =>
    obtain ⟨rfl, hk⟩ : cl = true ∧ v.k = 0 := by simpa using hsk
    have e1 : cpT true v = [] := by simp [cpT, hk]
    have e2 : cpW true v = v.ws := by simp [cpW, hk]
    rw [e1, e2, List.append_nil, clOf_nil]
    rw [hk] at c5
    have H1 := Lib.hid (H0.out.quiet hT ((Upd.refl (fun _ => False) w).alloc (.cells #[.int .u32 (o : Int), .int .u32 (lc : Int)] 40)))
    clear h h1 hl e1 e2 hsk hk
    go_enter Tryz.func71, Tryz.ntmps71
    go_wp2_with fail
    refine bodyPost_ret (v := .tuple #[]) (results_none rfl _ _ _) rfl ?_
    exact ⟨rfl, H1.out⟩
  case false =>
    have hck : cl = false ∨ (cl = true ∧ ((v.k : Int) == 0) = false) := by
      cases cl
      · exact .inl rfl
      · refine .inr ⟨rfl, ?_⟩
        rw [beq_eq_false_iff_ne]
        simp at hsk
        omega
    have e1 : cpT cl v = spT v.ws := by simp only [cpT, hsk]; rfl
    have e2 : cpW cl v = spW v.ws := by simp only [cpW, hsk]; rfl
    rw [e1, e2]
    clear e1 e2 hsk h
    have H1 := Lib.hid h1
    by_cases hws : v.ws = 1
    · have e1 : spT v.ws = [32] := by simp [spT, hws]
      have e2 : spW v.ws = 2 := by simp [spW, hws]
      rw [e1, e2]
      rw [hws] at c13
      have HW := Lib.hid (c_wb hT hok h1 32 (x := 32) rfl (by omega))
      clear h1 hl e1 e2 hws
      rcases hck with rfl | ⟨rfl, hk⟩
      all_goals
        go_enter Tryz.func71, Tryz.ntmps71
        go_wp2_with (go_at_call 343; refine HW.out.mono ?_)
        rintro e w1 ⟨rfl, h2⟩
        have d13 := h2.c13
        have f13 := h2.fz 13
        have H2 := Lib.hid (h2.setc hT (i := 13) (val := .int .u8 2) { v with ws := 2 } (fun _ _ => rfl) rfl)
        clear h2
        go_wp2_with fail
        go_loopg [] 0 (fun _ wx => FX T pb b true K pc B' wx (l ++ [32]) { v with ws := 2 } (clOf true _ [32]))
        case atStart => exact H2.out
        case round =>
          obtain ⟨cc, y1, y2, d3⟩ := hrel.c3c
          have hbx := hrel.at HBk.out.2
          have b0 : wr.cell? ⟨w.heap.size, 0, none⟩ = some (.int .u32 (o : Int)) := cell_at hbx 0
          have b1 : wr.cell? ⟨w.heap.size, 1, none⟩ = some (.int .u32 (lc : Int)) := cell_at hbx 1
          have H3 := Lib.hid hrel
          clear hrel hbx y2
          by_cases hp : 0 < cc
          · have hw1 : IntKind.i64.wrap (1 : Int) = 1 := rfl
            have hq : decide (cc < 1) = false := by rw [decide_eq_false_iff_not]; omega
            have hq2 : decide (cc < IntKind.i64.wrap 1) = false := by rw [hw1]; exact hq
            have hq3 : (1 : Int) ≤ cc := by omega
            go_wp2_with fail
            go_region_held3 (fun W => W.cell? ⟨pb, 3, none⟩ = some (.int .i64 cc) ∧ W.cell? ⟨w.heap.size, 0, none⟩ = some (.int .u32 (o : Int)) ∧ W.cell? ⟨w.heap.size, 1, none⟩ = some (.int .u32 (lc : Int))) (first | exact ⟨k1, k2, k3⟩ | exact ⟨d3, b0, b1⟩ | simp [go_sem, *])
              (first | (go_at_call 132; refine (HPc.out _).mono ?_; rintro e w5 ⟨rfl, hu5⟩
                        have k1 := hu5.cell (show wr.drew.cell? ⟨pb, 3, none⟩ = _ from d3) fun h => h
                        have k2 := hu5.cell (show wr.drew.cell? ⟨w.heap.size, 0, none⟩ = _ from b0) fun h => h
                        have k3 := hu5.cell (show wr.drew.cell? ⟨w.heap.size, 1, none⟩ = _ from b1) fun h => h
                        have HU5 := Lib.hid ((Upd.refl (fun _ => False) wr).drew.trans hu5)
                        clear hu5))
            go_wp2_with fail
            go_end0
            exact ⟨rfl, HBk.out.1 _ _ _ _ _ _ (H3.out.quiet hT HU5.out)⟩
          · obtain rfl : cc = 0 := by omega
            go_wp2_with fail
            go_region
            go_wp2_with fail
            go_end0
            exact ⟨rfl, HBk.out.1 _ _ _ _ _ _ (H3.out.quiet hT (Upd.refl (fun _ => False) wr).drew)⟩
    · have e1 : spT v.ws = [] := by simp [spT, hws]
      have e2 : spW v.ws = v.ws := by simp [spW, hws]
      rw [e1, e2, List.append_nil, clOf_nil]
      have hwsI : ((v.ws : Int) == 1) = false := by rw [beq_eq_false_iff_ne]; omega
      clear h1 hl e1 e2 hws
      rcases hck with rfl | ⟨rfl, hk⟩
      all_goals
        go_enter Tryz.func71, Tryz.ntmps71
        go_wp2_with fail
        go_loopg [] 0 (fun _ wx => FX T pb b true K pc B' wx l v _)
        case atStart => exact H1.out
        case round =>
          obtain ⟨cc, y1, y2, d3⟩ := hrel.c3c
          have hbx := hrel.at HBk.out.2
          have b0 : wr.cell? ⟨w.heap.size, 0, none⟩ = some (.int .u32 (o : Int)) := cell_at hbx 0
          have b1 : wr.cell? ⟨w.heap.size, 1, none⟩ = some (.int .u32 (lc : Int)) := cell_at hbx 1
          have H3 := Lib.hid hrel
          clear hrel hbx y2
          by_cases hp : 0 < cc
          · have hw1 : IntKind.i64.wrap (1 : Int) = 1 := rfl
            have hq : decide (cc < 1) = false := by rw [decide_eq_false_iff_not]; omega
            have hq2 : decide (cc < IntKind.i64.wrap 1) = false := by rw [hw1]; exact hq
            have hq3 : (1 : Int) ≤ cc := by omega
            go_wp2_with fail
            go_region_held3 (fun W => W.cell? ⟨pb, 3, none⟩ = some (.int .i64 cc) ∧ W.cell? ⟨w.heap.size, 0, none⟩ = some (.int .u32 (o : Int)) ∧ W.cell? ⟨w.heap.size, 1, none⟩ = some (.int .u32 (lc : Int))) (first | exact ⟨k1, k2, k3⟩ | exact ⟨d3, b0, b1⟩ | simp [go_sem, *])
              (first | (go_at_call 132; refine (HPc.out _).mono ?_; rintro e w5 ⟨rfl, hu5⟩
                        have k1 := hu5.cell (show wr.drew.cell? ⟨pb, 3, none⟩ = _ from d3) fun h => h
                        have k2 := hu5.cell (show wr.drew.cell? ⟨w.heap.size, 0, none⟩ = _ from b0) fun h => h
                        have k3 := hu5.cell (show wr.drew.cell? ⟨w.heap.size, 1, none⟩ = _ from b1) fun h => h
                        have HU5 := Lib.hid ((Upd.refl (fun _ => False) wr).drew.trans hu5)
                        clear hu5))
            go_wp2_with fail
            go_end0
            exact ⟨rfl, HBk.out.1 _ _ _ _ _ _ (H3.out.quiet hT HU5.out)⟩
          · obtain rfl : cc = 0 := by omega
            go_wp2_with fail
            go_region
            go_wp2_with fail
            go_end0
            exact ⟨rfl, HBk.out.1 _ _ _ _ _ _ (H3.out.quiet hT (Upd.refl (fun _ => False) wr).drew)⟩

end
end Go.Proofs.YtmdkpihlhdjjaaaGreatFmt
