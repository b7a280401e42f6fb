/-
  Print of an empty *File.
-/
import Derived.Test.YtdfgcopelfmcmaaGreatFmtPeD
import Derived.Test.YtdfgcopelfmcmaaGreatFmtErrf
namespace Go.Proofs.YtdfgcopelfmcmaaGreatFmt
open Go.RowKit

/-- The Printer between two prints; G holds the rows of its tabwriter. -/
structure PrIdle (pb b g tb : Nat) (s : PS) (w : World) (G : Nat → Prop) : Prop where
  cell : PCell pb w (wvOf s.kp pb b) (.pointer (some ⟨tb, 0, none⟩)) (cvOf s.kp b) s
  buf : BufRaw b g w
  tab : TwRaw tb w G
  lin : s.lin ≤ s.lic
  dis : pb ≠ b ∧ pb ≠ g ∧ pb ≠ tb ∧ b ≠ tb ∧ g ≠ tb ∧ ¬ G pb ∧ ¬ G b ∧ ¬ G g

/-- The blocks of a Printer. -/
def PrOwn (pb b g tb : Nat) (G : Nat → Prop) (k : Nat) : Prop := k = pb ∨ k = b ∨ k = g ∨ k = tb ∨ G k

/-- An empty File. -/
def FileAt (fb : Nat) (w : World) : Prop := ∃ n, w.heap[fb]? = some (.cells #[n, .slice none 0 0, .slice none 0 0] 52 (0, 0))

set_option maxRecDepth 100000 in
set_option maxHeartbeats 4000000 in
/-- With minify and singleLine on, Print refuses. -/
theorem pe_Print_refuses {S : Sink} {pb b g tb : Nat} {s : PS} {w : World} {G : Nat → Prop} (h : PrIdle pb b g tb s w G) (hm : s.mi = true) (hsi : s.si = true) (nd : Value) :
    Calls Tryz.prog 30 #[.pointer (some ⟨pb, 0, none⟩), .iface S.ty (.pointer (some S.ptr)), nd] w fun e w' => (∃ t v, e = .returned (.iface t v)) ∧ PrIdle pb b g tb s.rst w' G ∧ Upd (fun k => k = pb) w w' := by
  obtain ⟨hc, hb, ht, hl, hd⟩ := h
  obtain ⟨Q, HQ, HC⟩ := callsVar (pe_reset hc hl)
  have HK := Lib.hid (And.intro hb (And.intro ht (And.intro hl hd)))
  clear hc hb ht hl hd
  go_enter Tryz.func30, Tryz.ntmps30
  go_wp2_with (go_at_call 45; refine HC.out.mono ?_)
  rintro e w1 hq
  obtain ⟨rfl, hp1, hu1⟩ := HQ.out e w1 hq
  clear hq
  have c10 : w1.cell? ⟨pb, 10, none⟩ = some (.bool true) := by rw [hp1.at 10, ← hm]; rfl
  have c11 : w1.cell? ⟨pb, 11, none⟩ = some (.bool true) := by rw [hp1.at 11, ← hsi]; rfl
  have HP1 := Lib.hid hp1
  have HU1 := Lib.hid hu1
  clear hp1 hu1
  go_wp2_with (go_at_call 46; refine (fmt_Errorf _ ?_ _).mono ?_; kernel_rfl)
  rintro e w2 ⟨⟨t, v, rfl⟩, hu2⟩
  have HU2 := Lib.hid hu2
  clear hu2
  go_wp2
  go_ret
  obtain ⟨hb, ht, hl, hd⟩ := HK.out
  have hu : Upd (fun k => k = pb) w w2 := HU1.out.trans (HU2.out.mono fun _ h => h.elim)
  refine ⟨⟨t, v, rfl⟩, ⟨HP1.out.keep HU2.out fun h => h, hb.stable hu (fun e => hd.1 e.symm) (fun e => hd.2.1 e.symm), ht.stable hu fun k hk e => ?_, Nat.zero_le _, hd⟩, hu⟩
  subst e
  rcases hk with hk | hk
  · exact hd.2.2.1 hk
  · exact hd.2.2.2.2.2.1 hk

theorem TwIdle.raw {S : Sink} {tb : Nat} {w : World} {H : Nat → Prop} {inner t : List UInt8} {twd fg : Nat} (h : TwIdle S tb w H inner t twd fg) : ∃ G, TwRaw tb w G ∧ ∀ k, G k → H k := by
  obtain ⟨G, Fs, hA, hH⟩ := h
  exact ⟨G, hA.raw, fun k hk => (hH k).2 (.inr (.inl hk))⟩

theorem TwIdle.sink {S : Sink} {tb : Nat} {w : World} {H : Nat → Prop} {inner t : List UInt8} {twd fg : Nat} (h : TwIdle S tb w H inner t twd fg) : ∃ G Fs, TwRaw tb w G ∧ S.I w Fs inner ∧ (∀ k, G k → ¬ Fs k) ∧ ¬ Fs tb ∧ (∀ k, H k ↔ k = tb ∨ G k ∨ Fs k) := by
  obtain ⟨G, Fs, hA, hH⟩ := h
  have hA' := hA
  obtain ⟨vb, vl, aw, cap, hb, hr, hvb, hl, hI, hFt, hGt, hGF, hGl, hfg⟩ := hA
  exact ⟨G, Fs, hA'.raw, hI, hGF, hFt, hH⟩

/-- The last line is through. -/
theorem twI_lf {S : Sink} {tb twd fg : Nat} {w : World} {H : Nat → Prop} (h : twI S tb twd fg w H [10]) : TwIdle S tb w H [10] [] twd fg := by
  obtain ⟨inner, t, hi, e, hn⟩ := h
  have ht : t = [] := by
    cases inner with
    | nil =>
      simp at e
      subst e
      exact absurd rfl (hn 10 (by simp))
    | cons a l =>
      have := congrArg List.length e
      simp only [List.length_cons, List.length_append, List.length_nil] at this
      exact List.eq_nil_of_length_eq_zero (by omega)
  subst ht
  rw [List.append_nil] at e
  subst e
  exact hi

/-- A Printer between two prints, with all its blocks. -/
def PrAny (pb b tb : Nat) (s : PS) (w : World) (O : Nat → Prop) : Prop := ∃ g G, PrIdle pb b g tb s w G ∧ ∀ k, O k ↔ PrOwn pb b g tb G k

/-- What Print of an empty file leaves. -/
def PrintDone (S : Sink) (pb b tb : Nat) (s : PS) (O Fs : Nat → Prop) (w w' : World) : Prop :=
  ∃ s' O' F', PrAny pb b tb s' w' O' ∧ s.Same s' ∧ S.I w' F' [10] ∧ (∀ k, O' k → ¬ F' k) ∧ (∀ k, (O' k ∨ F' k) → (O k ∨ Fs k) ∨ w.heap.size ≤ k) ∧ Upd (fun k => O k ∨ Fs k) w w'

/-- What is left of the Printer behind the flush of its buffer. -/
theorem print_end {S : Sink} (_ : S.Law Tryz.prog 542) {pb b tb twd fg : Nat} {w w6 w7 w8 : World} {s s6 : PS} {O Fs Fs7 H2 : Nat → Prop} {g0 g : Nat}
    (hp6 : PCell pb w6 (wvOf s.kp pb b) (.pointer (some ⟨tb, 0, none⟩)) (cvOf s.kp b) s6) (hsame : s.Same s6) (hlin : s6.lin ≤ s6.lic)
    (h7 : BufPg (twSink S tb twd fg) b g w7 Fs7 [10] []) (hF7 : ∀ k, (k = b ∨ k = g ∨ Fs7 k) → (k = b ∨ k = g0 ∨ H2 k) ∨ w6.heap.size ≤ k) (hu7 : Upd (fun k => k = b ∨ k = g0 ∨ H2 k) w6 w7)
    (hH2 : ∀ k, H2 k → (O k ∨ Fs k) ∨ w.heap.size ≤ k) (hnp : ¬ (pb = b ∨ pb = g0 ∨ H2 pb)) (hb : O b) (hg : O g0) (hpb : O pb) (hu6 : Upd (fun k => O k ∨ Fs k) w w6)
    (h8 : TwDone S tb Fs7 [10] [] twd fg w7 w8) :
    PrintDone S pb b tb s O Fs w w8 := by
  obtain ⟨cur, hbb, hgg, hsz, hn, htk, hok, hI, hbg, hFb, hFg⟩ := h7
  have hlp : pb < w6.heap.size := heap_lt hp6
  obtain ⟨H8, hi8, hH8, hu8⟩ := h8
  have htb : Fs7 tb := by
    obtain ⟨inner, t, ⟨G, Fs, hA, hH⟩, _⟩ := hI
    exact (hH tb).2 (.inl rfl)
  have hp7 : ¬ (pb = b ∨ pb = g ∨ Fs7 pb) := fun h => by
    rcases hF7 pb h with h | h
    · exact hnp h
    · omega
  have hpF : ¬ Fs7 pb := fun h => hp7 (.inr (.inr h))
  have hl7 : ∀ k, k < w7.heap.size → ¬ Fs7 k → ¬ H8 k := fun k hk hn hh => by
    rcases hH8 k hh with h | h
    · exact hn h
    · omega
  have hp8 : PCell pb w8 (wvOf s.kp pb b) (.pointer (some ⟨tb, 0, none⟩)) (cvOf s.kp b) s6 := (hp6.keep hu7 hnp).keep hu8 hpF
  have hb8 := hu8.heap hbb hFb
  have hg8 := hu8.heap hgg hFg
  have hlb := heap_lt hbb
  have hlg := heap_lt hgg
  have hlp7 : pb < w7.heap.size := Nat.lt_of_lt_of_le hlp hu7.size
  obtain ⟨G, F8, hraw, hI8, hGF, hFt8, hHiff⟩ := hi8.sink
  have hG8 : ∀ k, G k → H8 k := fun k hk => (hHiff k).2 (.inr (.inl hk))
  have ht8 : H8 tb := (hHiff tb).2 (.inl rfl)
  have hgp : g ≠ pb := fun e => hp7 (.inr (.inl e.symm))
  have hbp : b ≠ pb := fun e => hp7 (.inl e.symm)
  have n8p := hl7 pb hlp7 hpF
  have n8b := hl7 b hlb hFb
  have n8g := hl7 g hlg hFg
  -- where the blocks come from
  have ho7 : ∀ k, (k = b ∨ k = g ∨ Fs7 k) → (O k ∨ Fs k) ∨ w.heap.size ≤ k := fun k hk => by
    rcases hF7 k hk with (rfl | rfl | h) | h
    · exact .inl (.inl hb)
    · exact .inl (.inl hg)
    · exact hH2 k h
    · exact .inr (Nat.le_trans hu6.size h)
  have ho8 : ∀ k, H8 k → (O k ∨ Fs k) ∨ w.heap.size ≤ k := fun k hk => by
    rcases hH8 k hk with h | h
    · exact ho7 k (.inr (.inr h))
    · exact .inr (Nat.le_trans hu6.size (Nat.le_trans hu7.size h))
  have hkp : s6.kp = s.kp := hsame.2.2.2.2.1
  refine ⟨s6, PrOwn pb b g tb G, F8, ⟨g, G, ⟨by rw [hkp]; exact hp8, ⟨_, _, _, cur, hb8, hg8, hsz, hbg⟩, hraw, hlin, ?_⟩, fun k => Iff.rfl⟩, hsame, hI8, ?_, ?_, ?_⟩
  · exact ⟨hbp.symm, hgp.symm, fun e => n8p (e ▸ ht8), fun e => n8b (e ▸ ht8), fun e => n8g (e ▸ ht8), fun h => n8p (hG8 _ h), fun h => n8b (hG8 _ h), fun h => n8g (hG8 _ h)⟩
  · intro k hk hf
    have hk8 : H8 k := (hHiff k).2 (.inr (.inr hf))
    rcases hk with rfl | rfl | rfl | rfl | hk
    · exact n8p hk8
    · exact n8b hk8
    · exact n8g hk8
    · exact hFt8 hf
    · exact hGF k hk hf
  · intro k hk
    rcases hk with (rfl | rfl | rfl | rfl | hk) | hk
    · exact .inl (.inl hpb)
    · exact .inl (.inl hb)
    · exact ho7 _ (.inr (.inl rfl))
    · exact ho8 _ ht8
    · exact ho8 k (hG8 k hk)
    · exact ho8 k ((hHiff k).2 (.inr (.inr hk)))
  · refine (hu6.trans' hu7 fun k hk => ?_).trans' hu8 fun k hk => ?_
    · rcases hk with rfl | rfl | h
      · exact .inl (.inl hb)
      · exact .inl (.inl hg)
      · exact hH2 k h
    · exact ho7 k (.inr (.inr hk))
end Go.Proofs.YtdfgcopelfmcmaaGreatFmt
