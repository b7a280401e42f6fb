/-
  The Printer's writeLit of a text without tabs; wordPart of a literal.
-/
import Derived.Test.YtjljnfmacechfaaGreatFmtPwA
import Derived.Test.YtjljnfmacechfaaGreatFmtWdA
import Derived.Test.YtjljnfmacechfaaGreatFmtShelf
namespace Go.Proofs.YtjljnfmacechfaaGreatFmt
open Go.RowKit

set_option maxRecDepth 100000 in
theorem zz_contains_no (s : ByteArray) (c : UInt8) (h : ∀ x ∈ s.data.toList, x ≠ c) (hs : s.size ≤ 1099511627776) (w : World) :
    Calls Tryz.prog 47 #[.string s, .string ⟨#[c]⟩] w fun e w' => e = .returned (.bool false) ∧ w' = w := by
  have H := Lib.hid (zz_index_no s c h hs w)
  clear h
  go_enter Tryz.func47, Tryz.ntmps47
  go_wp2_with (go_at_call 63; refine H.out.mono ?_; rintro e w1 ⟨rfl, rfl⟩)
  go_ret
  exact ⟨rfl, rfl⟩

theorem bw_meth_ws (b : Nat) : ∀ w, (method 529 85 (.pointer (some ⟨b, 0, none⟩)) "WriteString").run Tryz.prog w = .ok (216, .pointer (some ⟨b, 0, none⟩)) w := fun w => by kernel_rfl
theorem bw_ahead_ws (b : Nat) : ∀ w, (nilAhead 529 85 (.pointer (some ⟨b, 0, none⟩)) "WriteString").run Tryz.prog w = .ok (some false) w := fun w => by kernel_rfl

set_option maxRecDepth 100000 in
set_option maxHeartbeats 1000000 in
theorem p_writeLit {T : Sink} (_ : T.Law Tryz.prog 529) (hsw : T.WStr Tryz.prog) {pb b : Nat} {tv : Value} {w : World} {F : Nat → Prop} {l : List UInt8} {s : PS} (h : PW T pb b tv w F l s) (v : ByteArray) (hv : ∀ x ∈ v.data.toList, T.okb x = true) (h9 : ∀ x ∈ v.data.toList, x ≠ 9) (hl : l.length + v.size ≤ LIM) :
    Calls Tryz.prog 41 #[.pointer (some ⟨pb, 0, none⟩), .string v] w fun e w' => e = .returned (.tuple #[]) ∧ PWr T pb b tv w F (l ++ v.data.toList) s w' := by
  have c0 : w.cell? ⟨pb, 0, none⟩ = some (.iface 85 (.pointer (some ⟨b, 0, none⟩))) := h.cell.at 0
  have hta := fun w => asrt_other (P := Tryz.prog) Tryz.underlying122 (by kernel_rfl) (t := 85) (by decide) 89 (.pointer (some ⟨b, 0, none⟩)) w
  have HC := Lib.hid (zz_contains_no v 9 h9 (by unfold LIM at hl; omega) w)
  have HW := Lib.hid (hsw v h.buf hv hl)
  have hm := bw_meth_ws b
  have ha := bw_ahead_ws b
  have HA := Lib.hid h
  clear h h9 hv hl
  go_enter Tryz.func41, Tryz.ntmps41
  go_wp2_with (first
    | (go_at_call 47; refine HC.out.mono ?_; rintro e w1 ⟨rfl, rfl⟩)
    | (go_at_call 216; refine HW.out.mono ?_))
  rintro e w1 ⟨rfl, F1, h1, h2, h3⟩
  have HEnd := Lib.hid (HA.out.wrote h1 h2 h3)
  clear h1 h2 h3
  go_wp2
  go_end0
  exact ⟨rfl, HEnd.out⟩

/-- A literal's text: an odd backslash at the end gets another one. -/
def litText (v : List UInt8) : List UInt8 := if (v.length - (Lib.trimRightB v 92).length) % 2 = 1 then v ++ [92] else v

set_option maxRecDepth 100000 in
set_option maxHeartbeats 2000000 in
theorem p_wordPart_lit {T : Sink} (hs : T.Law Tryz.prog 529) (hsw : T.WStr Tryz.prog) (h92 : T.okb 92 = true) {pb b : Nat} {tv : Value} {w : World} {F : Nat → Prop} {l : List UInt8} {s : PS} (h : PW T pb b tv w F l s) {lb o1 l1 o2 l2 : Nat} {v : ByteArray}
    (hL : LitAt lb w o1 l1 o2 l2 v) (hlb : lb ≠ pb) (hlF : ¬ F lb) (nx : Value) (hv : ∀ x ∈ v.data.toList, T.okb x = true) (h9 : ∀ x ∈ v.data.toList, x ≠ 9) (hl : l.length + v.size + 1 ≤ LIM) :
    Calls Tryz.prog 46 #[.pointer (some ⟨pb, 0, none⟩), .iface 74 (.pointer (some ⟨lb, 0, none⟩)), nx] w fun e w' => e = .returned (.tuple #[]) ∧ PWr T pb b tv w F (l ++ litText v.data.toList) s w' := by
  have hta := fun w => asrt_same (P := Tryz.prog) Tryz.underlying74 135 (.pointer (some ⟨lb, 0, none⟩)) w
  have c4 : w.cell? ⟨lb, 4, none⟩ = some (.string v) := cell_at hL 4
  have hvs : (v.size : Int) ≤ 1099511627776 := by unfold LIM at hl; omega
  have HW := Lib.hid (p_writeLit hs hsw h v hv h9 (by omega))
  have HK := Lib.hid (And.intro hL (And.intro hlb (And.intro hlF hl)))
  clear hL hlb hlF hl hv h9
  have hm := bw_meth_wb b
  have ha := bw_ahead_wb b
  obtain ⟨n, hn⟩ : ∃ n, (Lib.trimRightB v.data.toList 92).length = n := ⟨_, rfl⟩
  have hnl : n ≤ v.size := by
    rw [← hn]
    simp only [Lib.trimRightB, List.length_reverse]
    refine Nat.le_trans (List.dropWhile_sublist _).length_le ?_
    rw [List.length_reverse]
    exact Nat.le_refl _
  have hnlI : (n : Int) ≤ (v.size : Int) := by omega
  have hvl : v.data.toList.length = v.size := rfl
  have HT := Lib.hid (fun W => Tryz.strings_TrimRight_one v 92 (by decide) W (by omega))
  have hpar : (v.size - n) % 2 = 0 ∨ (v.size - n) % 2 = 1 := by omega
  have hwn : IntKind.i64.wrap ((v.size : Int) - (n : Int)) = (v.size : Int) - (n : Int) := by rw [IntKind.wrap_i64]; omega
  have HVL := Lib.hid hvl
  clear hvl
  go_enter Tryz.func46, Tryz.ntmps46
  go_wp2_with (go_at_call 41; refine HW.out.mono ?_)
  rintro e w1 ⟨rfl, F1, hP1, hF1, hU1⟩
  have hL1 : LitAt lb w1 o1 l1 o2 l2 v := hU1.heap HK.out.1 fun e => e.elim HK.out.2.1 HK.out.2.2.1
  have d4 : w1.cell? ⟨lb, 4, none⟩ = some (.string v) := cell_at hL1 4
  have d0 : w1.cell? ⟨pb, 0, none⟩ = some (.iface 85 (.pointer (some ⟨b, 0, none⟩))) := hP1.cell.at 0
  have HQ := Lib.hid (And.intro hF1 hU1)
  have HP1 := Lib.hid hP1
  clear hP1 hF1 hU1 hL1
  rcases hpar with hpar | hpar
  · have hmod : ((v.size : Int) - (n : Int)) % 2 = 0 := by omega
    have hend : litText v.data.toList = v.data.toList := by unfold litText; rw [hn, HVL.out, if_neg (by omega)]
    have HE := Lib.hid hend
    clear hend hpar
    go_wp2_with fail
    go_region_held3 (fun w' => w'.cell? ⟨lb, 4, none⟩ = some (.string v)) (first | exact d4 | simp [go_sem, *])
      (first | (go_at_call 51; refine (HT.out _).mono ?_; rintro e w2 ⟨rfl, rfl⟩))
    go_wp2
    go_end0
    refine ⟨rfl, ?_⟩
    rw [HE.out]
    exact PWr.trans HQ.out.1 HQ.out.2 (HP1.out.quiet hs (Upd.refl _ w1).drew)
  · have hmod : ((v.size : Int) - (n : Int)) % 2 = 1 := by omega
    have hend : litText v.data.toList = v.data.toList ++ [92] := by unfold litText; rw [hn, HVL.out, if_pos (by omega)]
    have HE := Lib.hid hend
    clear hend hpar
    have HWb := Lib.hid (fun W (hu : Upd (fun _ => False) w1 W) => wb_any (x := 92) hs 92 rfl (HP1.out.stable hs hu (fun h => h) fun _ _ h => h).buf h92 (by
      have h1 := HK.out.2.2.2; have h2 := HVL.out; rw [List.length_append, h2]; omega))
    go_wp2_with fail
    go_region_held3 (fun w' => w'.cell? ⟨lb, 4, none⟩ = some (.string v)) (first | exact d4 | simp [go_sem, *])
      (first | (go_at_call 51; refine (HT.out _).mono ?_; rintro e w2 ⟨rfl, rfl⟩))
    go_wp2_with (go_at_call 215; refine (HWb.out _ ((Upd.refl _ w1).drew)).mono ?_)
    rintro e w2 ⟨rfl, F2, hB2, hF2, hU2⟩
    have HEnd := Lib.hid (PWr.trans HQ.out.1 HQ.out.2 (PWr.trans (F := F1) (fun k hk => .inl hk) (Upd.refl _ w1).drew ((HP1.out.stable hs ((Upd.refl (fun _ => False) w1).drew) (fun h => h) fun _ _ h => h).wrote hB2 hF2 hU2)))
    clear hB2 hF2 hU2
    go_wp2
    go_end0
    refine ⟨rfl, ?_⟩
    rw [HE.out, ← List.append_assoc]
    exact HEnd.out
end Go.Proofs.YtjljnfmacechfaaGreatFmt
