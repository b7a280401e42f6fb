/-
  A Printer over a bufio.Writer to which a text has been written; what a call leaves of it; what is left behind Print.
  The Printer's writeLit of a text without tabs; wordPart of a literal.
-/
import Derived.Test.YtmdkpihlhdjjaaaGreatFmtKErrfX
import Derived.Test.YtmdkpihlhdjjaaaGreatFmtKPeAX
import Derived.Test.YtmdkpihlhdjjaaaGreatFmtKBufDX
import Derived.Test.YtmdkpihlhdjjaaaGreatFmtKMaX
import Derived.Test.YtmdkpihlhdjjaaaGreatFmtShelf
namespace Go.Proofs.YtmdkpihlhdjjaaaGreatFmt
open Go.RowKit

/-- WriteString through the buffered writer over the sink S. -/
def Sink.WStr (P : Program) (S : Sink) : Prop :=
  ∀ {b : Nat} {w : World} {F : Nat → Prop} {l : List UInt8} (s : ByteArray), BufW S b w F l → (∀ c ∈ s.data.toList, S.okb c = true) → l.length + s.size ≤ LIM →
    Calls P 243 #[.pointer (some ⟨b, 0, none⟩), .string s] w fun e w' => e = .returned (.tuple #[.int .i64 (s.size : Int), .nilIface]) ∧ ∃ F', BufW S b w' F' (l ++ s.data.toList) ∧ (∀ k, F' k → F k ∨ w.heap.size ≤ k) ∧ Upd F w w'

theorem tw_wstr {S : Sink} (hs : S.Law Tryz.prog 561) (hok : ∀ c, S.okb c = true) (tb twd fg : Nat) : (twSink S tb twd fg).WStr Tryz.prog := by
  intro b w F l v hB hk hl
  exact ws_nosw (tw_law hs hok tb twd fg) (tw_noSW S tb twd fg) v hB hk hl

/-- l has been written to the Printer's writer; the blocks of F are the writer's own. -/
structure PW (T : Sink) (pb b : Nat) (tv : Value) (w : World) (F : Nat → Prop) (l : List UInt8) (s : PS) : Prop where
  cell : PCell pb w (.iface 71 (.pointer (some ⟨b, 0, none⟩))) tv (.pointer none) s
  buf : BufW T b w F l
  np : ¬ F pb

/-- What a call leaves of it. -/
def PWr (T : Sink) (pb b : Nat) (tv : Value) (w : World) (F : Nat → Prop) (l : List UInt8) (s : PS) (w' : World) : Prop :=
  ∃ F', PW T pb b tv w' F' l s ∧ (∀ k, F' k → F k ∨ w.heap.size ≤ k) ∧ Upd (fun k => k = pb ∨ F k) w w'

section
variable {P : Program} {fuel : Nat} {T : Sink} {pb b : Nat} {tv : Value} {w : World} {F : Nat → Prop} {l : List UInt8} {s : PS}

theorem PW.lt_pb (h : PW T pb b tv w F l s) : pb < w.heap.size := heap_lt h.cell
theorem PW.lt (hs : T.Law P fuel) (h : PW T pb b tv w F l s) : ∀ k, F k → k < w.heap.size := h.buf.lt hs
theorem PW.stable {G : Nat → Prop} {w' : World} (hs : T.Law P fuel) (h : PW T pb b tv w F l s) (hu : Upd G w w') (hp : ¬ G pb) (hd : ∀ k, F k → ¬ G k) : PW T pb b tv w' F l s :=
  ⟨h.cell.keep hu hp, h.buf.stable hs hu hd, h.np⟩
theorem PW.quiet {w' : World} (hs : T.Law P fuel) (h : PW T pb b tv w F l s) (hu : Upd (fun _ => False) w w') : PWr T pb b tv w F l s w' :=
  ⟨F, h.stable hs hu (fun h => h) fun _ _ h => h, fun _ hk => .inl hk, hu.mono fun _ h => h.elim⟩
theorem PW.set {w' : World} {s' : PS} (hs : T.Law P fuel) (h : PW T pb b tv w F l s) (hu : Upd (fun k => k = pb) w w') (hc : PCell pb w' (.iface 71 (.pointer (some ⟨b, 0, none⟩))) tv (.pointer none) s') : PWr T pb b tv w F l s' w' :=
  ⟨F, ⟨hc, h.buf.stable hs hu fun _ hk e => h.np (e ▸ hk), h.np⟩, fun _ hk => .inl hk, hu.mono fun _ h => .inl h⟩
theorem PW.wrote {w' : World} {l' : List UInt8} {F' : Nat → Prop} (h : PW T pb b tv w F l s) (hb : BufW T b w' F' l') (hF : ∀ k, F' k → F k ∨ w.heap.size ≤ k) (hu : Upd F w w') : PWr T pb b tv w F l' s w' := by
  have hlt := h.lt_pb
  refine ⟨F', ⟨h.cell.keep hu h.np, hb, fun e => ?_⟩, hF, hu.mono fun _ h => .inr h⟩
  rcases hF pb e with h1 | h1
  · exact h.np h1
  · omega
theorem PWr.trans {w1 w2 : World} {F1 : Nat → Prop} {l2 : List UInt8} {s2 : PS} (hF : ∀ k, F1 k → F k ∨ w.heap.size ≤ k) (hu : Upd (fun k => k = pb ∨ F k) w w1) (h : PWr T pb b tv w1 F1 l2 s2 w2) : PWr T pb b tv w F l2 s2 w2 := by
  obtain ⟨F2, h1, h2, h3⟩ := h
  refine ⟨F2, h1, fun k hk => ?_, hu.trans' h3 fun k hk => ?_⟩
  · rcases h2 k hk with h | h
    · exact hF k h
    · exact .inr (Nat.le_trans hu.size h)
  · rcases hk with h | h
    · exact .inl (.inl h)
    · exact (hF k h).imp (fun h => .inr h) id
theorem PWr.start (hs : T.Law P fuel) (h : PW T pb b tv w F l s) : PWr T pb b tv w F l s w := h.quiet hs (Upd.refl _ w)
/-- A block that is none of theirs keeps. -/
theorem PWr.keep {w' : World} {l' : List UInt8} {s' : PS} {k : Nat} {x : Obj} (h : PWr T pb b tv w F l' s' w') (hx : w.heap[k]? = some x) (h1 : k ≠ pb) (h2 : ¬ F k) : w'.heap[k]? = some x := by
  obtain ⟨F', _, _, hu⟩ := h
  exact hu.heap hx fun e => e.elim h1 h2
end

/-- What Print leaves: the text l. -/
def PrintL (S : Sink) (pb b tb : Nat) (s : PS) (O Fs : Nat → Prop) (l : List UInt8) (w w' : World) : Prop :=
  ∃ s' O' F', PrAny pb b tb s' w' O' ∧ s.Same s' ∧ S.I w' F' l ∧ (∀ k, O' k → ¬ F' k) ∧ (∀ k, (O' k ∨ F' k) → (O k ∨ Fs k) ∨ w.heap.size ≤ k) ∧ Upd (fun k => O k ∨ Fs k) w w'

/-- What is left behind the flush of the Printer's buffer and of its tabwriter. -/
theorem print_endL {S : Sink} {pb b tb twd fg : Nat} {w w7 w8 : World} {s s6 : PS} {O Fs F7 Fs7 : Nat → Prop} {g : Nat} {cur : Array Value} {l : List UInt8}
    (hkp : s.kp = false) (hp7 : PCell pb w7 (.iface 71 (.pointer (some ⟨b, 0, none⟩))) (.pointer (some ⟨tb, 0, none⟩)) (.pointer none) s6) (hsame : s.Same s6) (hlin : s6.lin ≤ s6.lic)
    (hbb : w7.heap[b]? = some (.cells #[.nilIface, .slice (some ⟨g, 0, none⟩) 4096 4096, .int .i64 0, .iface (twSink S tb twd fg).ty (.pointer (some (twSink S tb twd fg).ptr))] 285 (0, 0)))
    (hgg : w7.heap[g]? = some (.cells cur 5 (0, 0))) (hsz : cur.size = 4096) (hbg : b ≠ g) (hFb : ¬ Fs7 b) (hFg : ¬ Fs7 g) (htb : Fs7 tb) (hF : ∀ k, F7 k ↔ k = b ∨ k = g ∨ Fs7 k)
    (hnp : ¬ F7 pb) (ho7 : ∀ k, F7 k → (O k ∨ Fs k) ∨ w.heap.size ≤ k) (hpb : O pb) (hu7 : Upd (fun k => O k ∨ Fs k) w w7)
    (h8 : TwDone S tb Fs7 l [] twd fg w7 w8) :
    PrintL S pb b tb s O Fs l w w8 := by
  have hlp7 : pb < w7.heap.size := heap_lt hp7
  obtain ⟨H8, hi8, hH8, hu8⟩ := h8
  have hpF : ¬ Fs7 pb := fun h => hnp ((hF pb).2 (.inr (.inr h)))
  have hl7 : ∀ k, k < w7.heap.size → ¬ Fs7 k → ¬ H8 k := fun k hk hn hh => by
    rcases hH8 k hh with h | h
    · exact hn h
    · omega
  have hp8 : PCell pb w8 (wvOf s.kp pb b) (.pointer (some ⟨tb, 0, none⟩)) (cvOf s.kp b) s6 := by rw [hkp]; exact hp7.keep hu8 hpF
  have hb8 := hu8.heap hbb hFb
  have hg8 := hu8.heap hgg hFg
  have hlb := heap_lt hbb
  have hlg := heap_lt hgg
  obtain ⟨G, F8, hraw, hI8, hGF, hFt8, hHiff⟩ := hi8.sink
  have hG8 : ∀ k, G k → H8 k := fun k hk => (hHiff k).2 (.inr (.inl hk))
  have ht8 : H8 tb := (hHiff tb).2 (.inl rfl)
  have hgp : g ≠ pb := fun e => hnp ((hF pb).2 (.inr (.inl e.symm)))
  have hbp : b ≠ pb := fun e => hnp ((hF pb).2 (.inl e.symm))
  have n8p := hl7 pb hlp7 hpF
  have n8b := hl7 b hlb hFb
  have n8g := hl7 g hlg hFg
  have ho8 : ∀ k, H8 k → (O k ∨ Fs k) ∨ w.heap.size ≤ k := fun k hk => by
    rcases hH8 k hk with h | h
    · exact ho7 k ((hF k).2 (.inr (.inr h)))
    · exact .inr (Nat.le_trans hu7.size h)
  have hkp6 : s6.kp = s.kp := hsame.2.2.2.2.1
  refine ⟨s6, PrOwn pb b g tb G, F8, ⟨g, G, ⟨by rw [hkp6]; exact hp8, ⟨_, _, _, cur, hb8, hg8, hsz, hbg⟩, hraw, hlin, ?_⟩, fun k => Iff.rfl⟩, hsame, hI8, ?_, ?_, ?_⟩
  · exact ⟨hbp.symm, hgp.symm, fun e => n8p (e ▸ ht8), fun e => n8b (e ▸ ht8), fun e => n8g (e ▸ ht8), fun h => n8p (hG8 _ h), fun h => n8b (hG8 _ h), fun h => n8g (hG8 _ h)⟩
  · intro k hk hf
    have hk8 : H8 k := (hHiff k).2 (.inr (.inr hf))
    rcases hk with rfl | rfl | rfl | rfl | hk
    · exact n8p hk8
    · exact n8b hk8
    · exact n8g hk8
    · exact hFt8 hf
    · exact hGF k hk hf
  · intro k hk
    rcases hk with (rfl | rfl | rfl | rfl | hk) | hk
    · exact .inl (.inl hpb)
    · exact ho7 _ ((hF _).2 (.inl rfl))
    · exact ho7 _ ((hF _).2 (.inr (.inl rfl)))
    · exact ho8 _ ht8
    · exact ho8 k (hG8 k hk)
    · exact ho8 k ((hHiff k).2 (.inr (.inr hk)))
  · exact hu7.trans' hu8 fun k hk => ho7 k ((hF k).2 (.inr (.inr hk)))
end Go.Proofs.YtmdkpihlhdjjaaaGreatFmt

namespace Go.Proofs.YtmdkpihlhdjjaaaGreatFmt
open Go.RowKit

set_option maxRecDepth 100000 in
theorem zz_contains_no (s : ByteArray) (c : UInt8) (h : ∀ x ∈ s.data.toList, x ≠ c) (hs : s.size ≤ 1099511627776) (w : World) :
    Calls Tryz.prog 143 #[.string s, .string ⟨#[c]⟩] w fun e w' => e = .returned (.bool false) ∧ w' = w := by
  have H := Lib.hid (zz_index_no s c h hs w)
  clear h
  go_enter Tryz.func143, Tryz.ntmps143
  go_wp2_with (go_at_call 168; refine H.out.mono ?_; rintro e w1 ⟨rfl, rfl⟩)
  go_ret
  exact ⟨rfl, rfl⟩

theorem bw_meth_ws (b : Nat) : ∀ w, (method 561 71 (.pointer (some ⟨b, 0, none⟩)) "WriteString").run Tryz.prog w = .ok (243, .pointer (some ⟨b, 0, none⟩)) w := fun w => by kernel_rfl
theorem bw_ahead_ws (b : Nat) : ∀ w, (nilAhead 561 71 (.pointer (some ⟨b, 0, none⟩)) "WriteString").run Tryz.prog w = .ok (some false) w := fun w => by kernel_rfl

set_option maxRecDepth 100000 in
set_option maxHeartbeats 1000000 in
theorem p_writeLit {T : Sink} (_ : T.Law Tryz.prog 561) (hsw : T.WStr Tryz.prog) {pb b : Nat} {tv : Value} {w : World} {F : Nat → Prop} {l : List UInt8} {s : PS} (h : PW T pb b tv w F l s) (v : ByteArray) (hv : ∀ x ∈ v.data.toList, T.okb x = true) (h9 : ∀ x ∈ v.data.toList, x ≠ 9) (hl : l.length + v.size ≤ LIM) :
    Calls Tryz.prog 103 #[.pointer (some ⟨pb, 0, none⟩), .string v] w fun e w' => e = .returned (.tuple #[]) ∧ PWr T pb b tv w F (l ++ v.data.toList) s w' := by
  have c0 : w.cell? ⟨pb, 0, none⟩ = some (.iface 71 (.pointer (some ⟨b, 0, none⟩))) := h.cell.at 0
  have hta := fun w => asrt_other (P := Tryz.prog) Tryz.underlying276 (by kernel_rfl) (t := 71) (by decide) 84 (.pointer (some ⟨b, 0, none⟩)) w
  have HC := Lib.hid (zz_contains_no v 9 h9 (by unfold LIM at hl; omega) w)
  have HW := Lib.hid (hsw v h.buf hv hl)
  have hm := bw_meth_ws b
  have ha := bw_ahead_ws b
  have HA := Lib.hid h
  clear h h9 hv hl
  go_enter Tryz.func103, Tryz.ntmps103
  go_wp2_with (first
    | (go_at_call 143; refine HC.out.mono ?_; rintro e w1 ⟨rfl, rfl⟩)
    | (go_at_call 243; refine HW.out.mono ?_))
  rintro e w1 ⟨rfl, F1, h1, h2, h3⟩
  have HEnd := Lib.hid (HA.out.wrote h1 h2 h3)
  clear h1 h2 h3
  go_wp2
  go_end0
  exact ⟨rfl, HEnd.out⟩

/-- A literal's text: an odd backslash at the end gets another one. -/
def litText (v : List UInt8) : List UInt8 := if (v.length - (Lib.trimRightB v 92).length) % 2 = 1 then v ++ [92] else v

set_option maxRecDepth 100000 in
set_option maxHeartbeats 2000000 in
theorem p_wordPart_lit {T : Sink} (hs : T.Law Tryz.prog 561) (hsw : T.WStr Tryz.prog) (h92 : T.okb 92 = true) {pb b : Nat} {tv : Value} {w : World} {F : Nat → Prop} {l : List UInt8} {s : PS} (h : PW T pb b tv w F l s) {lb o1 l1 o2 l2 : Nat} {v : ByteArray}
    (hL : LitAt lb w o1 l1 o2 l2 v) (hlb : lb ≠ pb) (hlF : ¬ F lb) (nx : Value) (hv : ∀ x ∈ v.data.toList, T.okb x = true) (h9 : ∀ x ∈ v.data.toList, x ≠ 9) (hl : l.length + v.size + 1 ≤ LIM) :
    Calls Tryz.prog 43 #[.pointer (some ⟨pb, 0, none⟩), .iface 183 (.pointer (some ⟨lb, 0, none⟩)), nx] w fun e w' => e = .returned (.tuple #[]) ∧ PWr T pb b tv w F (l ++ litText v.data.toList) s w' := by
  have hta := fun w => asrt_same (P := Tryz.prog) Tryz.underlying183 113 (.pointer (some ⟨lb, 0, none⟩)) w
  have c4 : w.cell? ⟨lb, 4, none⟩ = some (.string v) := cell_at hL 4
  have hvs : (v.size : Int) ≤ 1099511627776 := by unfold LIM at hl; omega
  have HW := Lib.hid (p_writeLit hs hsw h v hv h9 (by omega))
  have HK := Lib.hid (And.intro hL (And.intro hlb (And.intro hlF hl)))
  clear hL hlb hlF hl hv h9
  have hm := bw_meth_wb b
  have ha := bw_ahead_wb b
  obtain ⟨n, hn⟩ : ∃ n, (Lib.trimRightB v.data.toList 92).length = n := ⟨_, rfl⟩
  have hnl : n ≤ v.size := by
    rw [← hn]
    simp only [Lib.trimRightB, List.length_reverse]
    refine Nat.le_trans (List.dropWhile_sublist _).length_le ?_
    rw [List.length_reverse]
    exact Nat.le_refl _
  have hnlI : (n : Int) ≤ (v.size : Int) := by omega
  have hvl : v.data.toList.length = v.size := rfl
  have HT := Lib.hid (fun W => Tryz.strings_TrimRight_one v 92 (by decide) W (by omega))
  have hpar : (v.size - n) % 2 = 0 ∨ (v.size - n) % 2 = 1 := by omega
  have hwn : IntKind.i64.wrap ((v.size : Int) - (n : Int)) = (v.size : Int) - (n : Int) := by rw [IntKind.wrap_i64]; omega
  have HVL := Lib.hid hvl
  clear hvl
  go_enter Tryz.func43, Tryz.ntmps43
  go_wp2_with (go_at_call 103; refine HW.out.mono ?_)
  rintro e w1 ⟨rfl, F1, hP1, hF1, hU1⟩
  have hL1 : LitAt lb w1 o1 l1 o2 l2 v := hU1.heap HK.out.1 fun e => e.elim HK.out.2.1 HK.out.2.2.1
  have d4 : w1.cell? ⟨lb, 4, none⟩ = some (.string v) := cell_at hL1 4
  have d0 : w1.cell? ⟨pb, 0, none⟩ = some (.iface 71 (.pointer (some ⟨b, 0, none⟩))) := hP1.cell.at 0
  have HQ := Lib.hid (And.intro hF1 hU1)
  have HP1 := Lib.hid hP1
  clear hP1 hF1 hU1 hL1
  rcases hpar with hpar | hpar
  · have hmod : ((v.size : Int) - (n : Int)) % 2 = 0 := by omega
    have hend : litText v.data.toList = v.data.toList := by unfold litText; rw [hn, HVL.out, if_neg (by omega)]
    have HE := Lib.hid hend
    clear hend hpar
    go_wp2_with fail
    go_region_held3 (fun w' => w'.cell? ⟨lb, 4, none⟩ = some (.string v)) (first | exact d4 | simp [go_sem, *])
      (first | (go_at_call 104; refine (HT.out _).mono ?_; rintro e w2 ⟨rfl, rfl⟩))
    go_wp2
    go_end0
    refine ⟨rfl, ?_⟩
    rw [HE.out]
    exact PWr.trans HQ.out.1 HQ.out.2 (HP1.out.quiet hs (Upd.refl _ w1).drew)
  · have hmod : ((v.size : Int) - (n : Int)) % 2 = 1 := by omega
    have hend : litText v.data.toList = v.data.toList ++ [92] := by unfold litText; rw [hn, HVL.out, if_pos (by omega)]
    have HE := Lib.hid hend
    clear hend hpar
    have HWb := Lib.hid (fun W (hu : Upd (fun _ => False) w1 W) => wb_any (x := 92) hs 92 rfl (HP1.out.stable hs hu (fun h => h) fun _ _ h => h).buf h92 (by
      have h1 := HK.out.2.2.2; have h2 := HVL.out; rw [List.length_append, h2]; omega))
    go_wp2_with fail
    go_region_held3 (fun w' => w'.cell? ⟨lb, 4, none⟩ = some (.string v)) (first | exact d4 | simp [go_sem, *])
      (first | (go_at_call 104; refine (HT.out _).mono ?_; rintro e w2 ⟨rfl, rfl⟩))
    go_wp2_with (go_at_call 242; refine (HWb.out _ ((Upd.refl _ w1).drew)).mono ?_)
    rintro e w2 ⟨rfl, F2, hB2, hF2, hU2⟩
    have HEnd := Lib.hid (PWr.trans HQ.out.1 HQ.out.2 (PWr.trans (F := F1) (fun k hk => .inl hk) (Upd.refl _ w1).drew ((HP1.out.stable hs ((Upd.refl (fun _ => False) w1).drew) (fun h => h) fun _ _ h => h).wrote hB2 hF2 hU2)))
    clear hB2 hF2 hU2
    go_wp2
    go_end0
    refine ⟨rfl, ?_⟩
    rw [HE.out, ← List.append_assoc]
    exact HEnd.out
end Go.Proofs.YtmdkpihlhdjjaaaGreatFmt
