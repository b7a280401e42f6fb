/-
  tabwriter.Writer: Write, of text without tabs, vertical tabs, form feeds and escapes.
  tabwriter.Writer as a lawful sink, over a lawful sink; Init.
-/
import Derived.Test.YtmdkpihlhdjjaaaGreatFmtKMd
import Derived.Test.YtmdkpihlhdjjaaaGreatFmtKTwMX
namespace Go.Proofs.YtmdkpihlhdjjaaaGreatFmt
open Go.RowKit

theorem tw_fnd_line {S : Sink} (hs : S.Law Tryz.prog 561) (hok : ∀ c, S.okb c = true) {tb : Nat} {w : World} {G Fs : Nat → Prop} {inner t : List UInt8} {twd fg pos : Nat} {cw : Int} {ht : Bool} {x : TCell} (hx : x.n = t.length)
    (h : TwAt S tb w G Fs inner t twd fg pos 0 cw ht 2 [x]) (hl : inner.length + t.length + 1 ≤ LIM) :
    Calls Tryz.prog 158 #[.pointer (some ⟨tb, 0, none⟩)] w fun e w' => e = .returned (.tuple #[]) ∧ TwDone S tb (fun k => k = tb ∨ G k ∨ Fs k) (inner ++ (t ++ [10])) [] twd fg w w' := by
  by_cases h0 : t = []
  · subst h0
    exact tw_fnd hs h (by simp) (.inr rfl) (tw_wl2e hs hok hx h (by simpa using hl))
  · exact tw_fnd hs h (by simp) (.inr rfl) (tw_wl2n hs hok hx h0 h hl)

/-- A part of a readable slice. -/
theorem SliceRd.sub {w : World} {F : Nat → Prop} {a : Addr} {c : Nat} {d : List UInt8} (h : SliceRd w F (.slice (some a) d.length c) d) {n i : Nat} (hn : n ≤ i) (hi : i ≤ d.length) :
    SliceRd w F (.slice (if c = n then some a else some (a.add n)) (i - n) (c - n)) ((d.take i).drop n) := by
  have hlen : ((d.take i).drop n).length = i - n := by rw [List.length_drop, List.length_take]; omega
  rcases h with ⟨h1, _⟩ | ⟨b, c', h1, h2, h3⟩
  · cases h1
  · injection h1 with h1 _ h1c
    injection h1 with h1
    subst h1; subst h1c
    have hb : (a.add n).block = a.block := by unfold Addr.add; split <;> rfl
    by_cases hc : c = n
    · have h0 : (d.take i).drop n = [] := List.eq_nil_of_length_eq_zero (by
        by_cases hd : d = []
        · subst hd; simp
        · have := (h2 hd).2; omega)
      rw [h0, if_pos hc]
      rw [h0] at hlen
      rw [← hlen]
      exact sliceRd_empty (fun h => by cases h)
    · rw [if_neg hc]
      refine .inr ⟨a.add n, c - n, by rw [hlen], fun hne => ?_, fun j u hj => ?_⟩
      · have hd : d ≠ [] := by rintro rfl; simp at hne
        exact ⟨by rw [hb]; exact (h2 hd).1, by rw [hlen]; have := (h2 hd).2; omega⟩
      · rw [Addr.add_add]
        refine h3 (n + j) u ?_
        rw [bv_drop, List.getElem?_drop, bv_take, List.getElem?_take] at hj
        split at hj
        · exact hj
        · cases hj

theorem SliceRd.sub_ne {w : World} {F : Nat → Prop} {a : Addr} {c : Nat} {d : List UInt8} (h : SliceRd w F (.slice (some a) d.length c) d) {n i : Nat} (hn : n ≤ i) (hi : i ≤ d.length) (hc : ¬ c = n) :
    SliceRd w F (.slice (some (a.add n)) (i - n) (c - n)) ((d.take i).drop n) := by
  have := h.sub hn hi
  rwa [if_neg hc] at this
theorem SliceRd.sub_eq {w : World} {F : Nat → Prop} {a : Addr} {d : List UInt8} {n i : Nat} (h : SliceRd w F (.slice (some a) d.length n) d) (hn : n ≤ i) (hi : i ≤ d.length) :
    SliceRd w F (.slice (some a) (i - n) 0) ((d.take i).drop n) := by
  have := h.sub hn hi
  rwa [if_pos rfl, Nat.sub_self] at this

/-- What the loop of Write keeps. -/
def TwWr (S : Sink) (tb : Nat) (H : Nat → Prop) (l d : List UInt8) (twd fg n i : Nat) (w wr : World) : Prop :=
  ∃ inner t, TwDone S tb H inner t twd fg w wr ∧ inner ++ t = l ++ d.take n ∧ (∀ c ∈ t, c ≠ 10) ∧ (∀ c ∈ (d.take i).drop n, c ≠ 10)

/-- The bytes that may be written. -/
def twOk (c : UInt8) : Bool := c != 9 && c != 11 && c != 12 && c != 255

/-- What a call leaves, behind a variable, for whatever argument that is fit. -/
theorem callsVarV {P : Program} {f : FuncId} {p : Value} {w : World} {Q : Ending → World → Prop} {C : Value → Prop} (h : ∀ v, C v → Calls P f #[p, v] w Q) : ∃ Q', RowKit.Hid (∀ e w', Q' e w' → Q e w') ∧ RowKit.Hid (∀ v, C v → Calls P f #[p, v] w Q') := ⟨Q, fun _ _ h => h, h⟩

theorem TwWr.start {S : Sink} {tb : Nat} {H : Nat → Prop} {inner t d : List UInt8} {twd fg : Nat} {w : World} (h : TwIdle S tb w H inner t twd fg) (ht : ∀ c ∈ t, c ≠ 10) : TwWr S tb H (inner ++ t) d twd fg 0 0 w w :=
  ⟨inner, t, ⟨H, h, fun k hk => .inl hk, Upd.refl _ _⟩, by simp, ht, fun c hc => by simp at hc⟩

theorem TwWr.skip {S : Sink} {tb : Nat} {H : Nat → Prop} {l d : List UInt8} {twd fg n i : Nat} {w wr : World} (h : TwWr S tb H l d twd fg n i w wr) (hn : n ≤ i) (hi : i < d.length) (hne : d[i] ≠ 10) : TwWr S tb H l d twd fg n (i + 1) w wr := by
  obtain ⟨inner, t, h1, h2, h3, h4⟩ := h
  refine ⟨inner, t, h1, h2, h3, fun c hc => ?_⟩
  rw [List.take_succ_eq_append_getElem hi, List.drop_append_of_le_length (by rw [List.length_take]; omega)] at hc
  rcases List.mem_append.1 hc with h | h
  · exact h4 c h
  · rw [List.mem_singleton.1 h]; exact hne

theorem TwAt.flag {S : Sink} {tb : Nat} {w : World} {G Fs : Nat → Prop} {inner t : List UInt8} {twd fg pos cs : Nat} {cw : Int} {ht : Bool} {nl : Nat} {c0 : List TCell} (h : TwAt S tb w G Fs inner t twd fg pos cs cw ht nl c0) :
    w.cell? ⟨tb, 12, none⟩ = some (.int .u64 (fg : Int)) ∧ w.cell? ⟨tb, 18, none⟩ = some (.int .u8 0) := by
  obtain ⟨vb, vl, aw, cap, hb, _⟩ := h
  exact ⟨cell_at hb 12, cell_at hb 18⟩

/-- append at the end of a text that waits. -/
theorem tw_append_idle {S : Sink} (hs : S.Law Tryz.prog 561) {tb : Nat} {w : World} {H : Nat → Prop} {inner t d : List UInt8} {twd fg : Nat} {v : Value} (h : TwIdle S tb w H inner t twd fg) (hv : SliceRd w H v d) (hl : t.length + d.length ≤ LIM) :
    Calls Tryz.prog 247 #[.pointer (some ⟨tb, 0, none⟩), v] w fun e w' => e = .returned (.tuple #[]) ∧ TwDone S tb H inner (t ++ d) twd fg w w' := by
  obtain ⟨G, Fs, hA, hH⟩ := h
  have hv' : SliceRd w (fun k => k = tb ∨ G k ∨ Fs k) v d := by
    rcases hv with h | ⟨a, c, h1, h2, h3⟩
    · exact .inl h
    · exact .inr ⟨a, c, h1, fun hne => ⟨fun hf => (h2 hne).1 ((hH _).2 hf), (h2 hne).2⟩, h3⟩
  refine (tw_append hs hA hv' hl (by omega)).mono ?_
  rintro e w' ⟨rfl, G', h1, h2, h3⟩
  refine ⟨rfl, fun k => k = tb ∨ G' k ∨ Fs k, ⟨G', Fs, by rw [List.length_append]; exact h1, fun k => Iff.rfl⟩, fun k hk => ?_, h3.mono fun k hk => (hH k).2 (hk.imp id .inl)⟩
  rcases hk with hk | hk | hk
  · exact .inl ((hH k).2 (.inl hk))
  · exact (h2 k hk).imp (fun h => (hH k).2 (.inr (.inl h))) id
  · exact .inl ((hH k).2 (.inr (.inr hk)))

set_option maxRecDepth 100000 in
set_option maxHeartbeats 8000000 in
theorem tw_Write {S : Sink} (hs : S.Law Tryz.prog 561) (hok : ∀ c, S.okb c = true) {tb : Nat} {w : World} {H : Nat → Prop} {inner0 t0 d : List UInt8} {twd fg : Nat} {v : Value} (h : TwIdle S tb w H inner0 t0 twd fg) (ht0 : ∀ c ∈ t0, c ≠ 10)
    (hv : SliceRd w H v d) (hk : ∀ c ∈ d, twOk c = true) (hl : (inner0 ++ t0).length + d.length ≤ LIM) :
    Calls Tryz.prog 245 #[.pointer (some ⟨tb, 0, none⟩), v] w fun e w' => e = .returned (.tuple #[.int .i64 (d.length : Int), .nilIface]) ∧ ∃ inner t, TwDone S tb H inner t twd fg w w' ∧ inner ++ t = inner0 ++ t0 ++ d ∧ ∀ c ∈ t, c ≠ 10 := by
  have hLIM : LIM = 1099511627776 := rfl
  have hA : Upd (fun _ => False) w (w.alloc (.cells #[.nilIface] 35)) := (Upd.refl _ w).alloc _
  have hNew : (w.alloc (.cells #[.nilIface] 35)).heap[w.heap.size]? = some (.cells #[.nilIface] 35 (0, 0)) := heap_alloc_new w _
  have hlt := h.lt hs
  have hnH : ¬ H w.heap.size := fun e => absurd (hlt _ e) (by omega)
  have hI1 := h.stable hs hA fun _ _ h => h
  have hfg : fg = 10 ∨ fg = 26 := by obtain ⟨G, Fs, ⟨vb, vl, aw, cap, _, _, _, _, _, _, _, _, _, hfg⟩, _⟩ := h; exact hfg
  have hf1 : (bits BinOp.and IntKind.u64 (fg : Int) 1 != 0) = false := by rcases hfg with rfl | rfl <;> decide
  have hlI : (d.length : Int) ≤ 1099511627776 := by have := hl; omega
  -- the end: the box of the error holds nil, and what was deferred finds nothing
  have hfin : ∀ (W : World) (inner t : List UInt8), TwDone S tb H inner t twd fg (w.alloc (.cells #[.nilIface] 35)) W → TwDone S tb H inner t twd fg w W ∧ W.cell? ⟨w.heap.size, 0, none⟩ = some .nilIface := fun W inner t ⟨H', h1, h2, h3⟩ =>
    ⟨⟨H', h1, fun k hk => (h2 k hk).imp id fun h => Nat.le_trans hA.size h, (hA.mono fun _ h => h.elim).trans h3⟩, cell_at (h3.heap hNew hnH) 0⟩
  have HFin := Lib.hid hfin
  rcases hv with ⟨rfl, rfl⟩ | ⟨a, c, rfl, hac, hrd⟩
  · obtain ⟨Q, HQ, HC⟩ := callsVar (tw_append_idle hs hI1 (v := .slice none 0 0) (d := []) (.inl ⟨rfl, rfl⟩) (by have := hl; simp only [List.length_append, List.length_nil] at this ⊢; omega))
    have HT := Lib.hid ht0
    clear hA hNew hlt hnH hk hI1 h ht0 hfg hl hfin hlI
    go_enter_defers Tryz.func245, Tryz.ntmps245
    go_wp2_with fail
    go_loopg [4, 13] 0 (fun k v4 v13 wr => v4 = .int .i64 0 ∧ v13 = .int .i64 0 ∧ (w.alloc (.cells #[.nilIface] 35)) = wr)
    case atStart => exact ⟨rfl, rfl, rfl⟩
    case round =>
      obtain ⟨rfl, rfl, rfl⟩ := hrel
      go_wp2_with (go_at_call 247; refine HC.out.mono ?_)
      rintro e w1 hq
      obtain ⟨rfl, h1⟩ := HQ.out e w1 hq
      clear hq
      rw [List.append_nil] at h1
      obtain ⟨hd, hbx⟩ := HFin.out _ _ _ h1
      have HD := Lib.hid hd
      clear h1 hd
      go_wp2_with fail
      refine leaves_cons (f := 157) (args := #[.pointer (some ⟨tb, 0, none⟩), .pointer (some ⟨w.heap.size, 0, none⟩), .string ⟨#[87, 114, 105, 116, 101]⟩]) (by simp) (Go.Proofs.enters_of Tryz.func157 (by kernel_rfl) rfl _ _) ?_
      refine (tw_handlePanic _ _ _ _).mono ?_
      rintro e u' w'' ⟨rfl, rfl, rfl⟩
      refine ⟨.tuple #[.int .i64 0, .nilIface], ?_, rfl, _, _, HD.out, by simp, HT.out⟩
      simp [results, go_sem, hbx]
  · have HSt := Lib.hid (TwWr.start (d := d) hI1 ht0)
    have hrdI : ∀ (W : World), Upd H (w.alloc (.cells #[.nilIface] 35)) W → SliceRd W H (.slice (some a) d.length c) d := fun W hu => SliceRd.stable (.inr ⟨a, c, rfl, hac, hrd⟩) ((hA.mono fun _ h => h.elim).trans hu) fun _ h => h
    have hrdN : ∀ (W : World) (F : Nat → Prop), (∀ k, F k → H k ∨ (w.alloc (.cells #[.nilIface] 35)).heap.size ≤ k) → Upd H (w.alloc (.cells #[.nilIface] 35)) W → SliceRd W F (.slice (some a) d.length c) d := fun W F hF hu => by
      rcases hrdI W hu with h | ⟨a', c', h1, h2, h3⟩
      · exact .inl h
      · injection h1 with h1 _ h1c
        injection h1 with h1
        subst h1; subst h1c
        refine .inr ⟨a, c, rfl, fun hne => ⟨fun hf => ?_, (h2 hne).2⟩, h3⟩
        rcases hF _ hf with h | h
        · exact (h2 hne).1 h
        · have h0 : (bv d)[0]? = some (B8 (d[0]'(List.length_pos_iff.2 hne))) := by rw [bv_getElem?, List.getElem?_eq_getElem (List.length_pos_iff.2 hne)]; rfl
          have := World.block_lt_of_cell? w _ (hrd 0 _ h0)
          have hb : (a.add 0).block = a.block := by unfold Addr.add; split <;> rfl
          rw [hb] at this
          have := hA.size
          omega
    have HRd := Lib.hid hrdN
    have HCell := Lib.hid (fun (W : World) (i : Nat) (hi : i < d.length) (hu : Upd H (w.alloc (.cells #[.nilIface] 35)) W) => show W.cell? (a.add i) = some (.int .u8 ((d[i]).toNat : Int)) by
      rcases hrdI W hu with ⟨h, _⟩ | ⟨a', c', h1, h2, h3⟩
      · cases h
      · injection h1 with h1 _ h1c
        injection h1 with h1
        subst h1
        exact h3 i _ (by rw [bv_getElem?, List.getElem?_eq_getElem hi]; rfl))
    have hcap : d ≠ [] → d.length ≤ c := fun h => (hac h).2
    have HCap := Lib.hid hcap
    have HK := Lib.hid hk
    have HL := Lib.hid hl
    clear hA hNew hlt hnH hac hrd hk hI1 h ht0 hfg hl hfin hrdI hrdN hcap
    go_enter_defers Tryz.func245, Tryz.ntmps245
    go_wp2_with fail
    go_loopg [4, 13] d.length (fun k v4 v13 wr => ∃ n i : Nat, v4 = .int .i64 (n : Int) ∧ v13 = .int .i64 (i : Int) ∧ i + k = d.length ∧ n ≤ i ∧ TwWr S tb H (inner0 ++ t0) d twd fg n i (w.alloc (.cells #[.nilIface] 35)) wr)
    case atStart => exact ⟨0, 0, rfl, rfl, by omega, Nat.le_refl _, HSt.out⟩
    case round =>
      obtain ⟨n, i, rfl, rfl, hik, hni, hW⟩ := hrel
      have HIK := Lib.hid hik; clear hik
      by_cases hlt : i < d.length
      · have hltI : (i : Int) < (d.length : Int) := by omega
        have HW := Lib.hid hW
        obtain ⟨inner, t, ⟨H1, hI, hH1, hU1⟩, heq, hnt, hnd⟩ := hW
        have hcl := HCell.out wr i hlt hU1
        have hbyte := HK.out _ (List.getElem_mem hlt)
        obtain ⟨c12, c18⟩ : wr.cell? ⟨tb, 12, none⟩ = some (.int .u64 (fg : Int)) ∧ wr.cell? ⟨tb, 18, none⟩ = some (.int .u8 0) := by obtain ⟨G, Fs, hA, _⟩ := hI; exact hA.flag
        by_cases h10 : d[i] = 10
        · have hcl10 : wr.cell? (a.add i) = some (.int .u8 10) := by rw [hcl, h10]; rfl
          have hcd : d.length ≤ c := HCap.out (by rintro rfl; simp at hlt)
          have hcn : ¬ c = n := by omega
          have hicI : (i : Int) ≤ (c : Int) := by omega
          have hniI : (n : Int) ≤ (i : Int) := by omega
          have HS := Lib.hid ((HRd.out wr H1 hH1 hU1).sub_ne hni (Nat.le_of_lt hlt) hcn)
          have hd'l : ((d.take i).drop n).length = i - n := by rw [List.length_drop, List.length_take]; omega
          have hlen0 : inner.length + t.length + (i - n) + 1 ≤ LIM := by
            have h1 := congrArg List.length heq
            have h2 := HL.out
            simp only [List.length_append, List.length_take] at h1 h2
            omega
          obtain ⟨Q, HQ, HC⟩ := callsVarV (C := fun v => SliceRd wr H1 v ((d.take i).drop n)) fun v hv => tw_append_idle hs hI hv (by rw [hd'l]; omega)
          have HKp := Lib.hid (And.intro hH1 (And.intro hU1 (And.intro heq (And.intro hnt (And.intro hnd (And.intro hlen0 hd'l))))))
          have H10 := Lib.hid h10
          clear hcl h10 hI hH1 hU1 heq hnt hnd hlen0 hd'l hbyte hcd
          go_wp2_with (go_at_call 247; refine (HC.out _ HS.out).mono ?_)
          rintro e w2 hq
          obtain ⟨rfl, H2, ⟨G2, Fs2, hA2, hH2⟩, hs2, hu2⟩ := HQ.out e w2 hq
          clear hq
          obtain ⟨Q2, HQ2, HC2⟩ := callsVar (tw_updateWidth hs hA2 (by obtain ⟨_, _, _, _, _, h1, h2⟩ := HKp.out; rw [List.length_append, h2]; omega))
          have HP2 := Lib.hid (And.intro hH2 (And.intro hs2 hu2))
          clear hA2 hH2 hs2 hu2
          go_wp2_with (go_at_call 187; refine HC2.out.mono ?_)
          rintro e w3 hq
          obtain ⟨rfl, ⟨cw3, hA3⟩, hu3⟩ := HQ2.out e w3 hq
          clear hq
          obtain ⟨Q3, HQ3, HC3⟩ := callsVar (tw_terminate hs hA3)
          have HP3 := Lib.hid hu3
          clear hA3 hu3
          go_wp2_with (go_at_call 176; refine HC3.out.mono ?_)
          rintro e w4 hq
          obtain ⟨rfl, G4, hA4, hs4, hu4⟩ := HQ3.out e w4 hq
          clear hq
          obtain ⟨Q4, HQ4, HC4⟩ := callsVar (tw_addLine1 hs hA4)
          have HP4 := Lib.hid (And.intro hs4 hu4)
          clear hA4 hs4 hu4
          go_wp2_with (go_at_call 128; refine HC4.out.mono ?_)
          rintro e w5 hq
          obtain ⟨rfl, G5, hA5, hs5, hu5⟩ := HQ4.out e w5 hq
          clear hq
          obtain ⟨Q5, HQ5, HC5⟩ := callsVar (tw_fnd_line hs hok rfl hA5 (by obtain ⟨_, _, _, _, _, h1, h2⟩ := HKp.out; rw [List.length_append, h2]; omega))
          have HP5 := Lib.hid (And.intro hs5 hu5)
          clear hA5 hs5 hu5
          go_wp2_with (go_at_call 158; refine HC5.out.mono ?_)
          rintro e w6 hq
          obtain ⟨rfl, hD6⟩ := HQ5.out e w6 hq
          clear hq
          have HD6 := Lib.hid hD6
          clear hD6
          go_wp2_with fail
          go_roundg (d.length - (i + 1))
          case measure => have := HIK.out; omega
          case rel =>
            refine ⟨i + 1, i + 1, by go_num, by go_num, by omega, Nat.le_refl _, ?_⟩
            obtain ⟨hH1, hU1, heq, hnt, hnd, hlen0, hd'l⟩ := HKp.out
            obtain ⟨hH2, hs2, hu2⟩ := HP2.out
            have hu3 := HP3.out
            obtain ⟨hs4, hu4⟩ := HP4.out
            obtain ⟨hs5, hu5⟩ := HP5.out
            have hz2 := hu2.size
            have hz3 := hu3.size
            have hz4 := hu4.size
            -- what each step may touch, of what was there before
            have ht2 : ∀ k, (k = tb ∨ G2 k ∨ Fs2 k) → H1 k ∨ wr.heap.size ≤ k := fun k hk => hs2 k ((hH2 k).2 hk)
            have ht4 : ∀ k, G4 k → H1 k ∨ wr.heap.size ≤ k := fun k hk => by
              rcases hs4 k hk with h | h
              · exact ht2 k (.inr (.inl h))
              · exact .inr (by omega)
            have ht5 : ∀ k, G5 k → H1 k ∨ wr.heap.size ≤ k := fun k hk => by
              rcases hs5 k hk with h | h
              · exact ht4 k h
              · exact .inr (by omega)
            have hu : Upd H1 wr w5 := (((hu2.trans' hu3 fun k hk => ht2 k (.inl hk)).trans' hu4 fun k hk => ht2 k (hk.imp id .inl)).trans' hu5 fun k hk => by
              rcases hk with h | h
              · exact ht2 k (.inl h)
              · exact ht4 k h)
            refine ⟨_, [], (HD6.out.of (H := H1) (w := wr) (fun k hk => ?_) hu).of hH1 hU1, ?_, fun c hc => (by cases hc), fun c hc => ?_⟩
            · rcases hk with hk | hk | hk
              · exact ht2 k (.inl hk)
              · exact ht5 k hk
              · exact ht2 k (.inr (.inr hk))
            · rw [List.take_succ_eq_append_getElem hlt, H10.out, List.append_nil]
              have e1 : d.take i = d.take n ++ (d.take i).drop n := by
                have h := List.take_append_drop n (d.take i)
                rw [List.take_take, Nat.min_eq_left hni] at h
                exact h.symm
              have e2 : inner0 ++ t0 ++ (d.take i ++ [10]) = (inner0 ++ t0 ++ d.take n) ++ ((d.take i).drop n ++ [10]) := by
                conv => lhs; rw [e1]
                simp only [List.append_assoc]
              rw [e2, ← heq]
              simp only [List.append_assoc]
            · rw [List.drop_eq_nil_of_le (by rw [List.length_take]; omega)] at hc
              cases hc
        · have HNe := Lib.hid h10
          have e10 : (((d[i]).toNat : Int) == 10) = false := by
            rw [beq_eq_false_iff_ne]; intro h; exact h10 (UInt8.toNat_inj.1 (by show (d[i]).toNat = 10; omega))
          have e9 : (((d[i]).toNat : Int) == 9) = false := by
            rw [beq_eq_false_iff_ne]; intro h; have h' : d[i] = 9 := UInt8.toNat_inj.1 (by show (d[i]).toNat = 9; omega); rw [h'] at hbyte; cases hbyte
          have e11 : (((d[i]).toNat : Int) == 11) = false := by
            rw [beq_eq_false_iff_ne]; intro h; have h' : d[i] = 11 := UInt8.toNat_inj.1 (by show (d[i]).toNat = 11; omega); rw [h'] at hbyte; cases hbyte
          have e12 : (((d[i]).toNat : Int) == 12) = false := by
            rw [beq_eq_false_iff_ne]; intro h; have h' : d[i] = 12 := UInt8.toNat_inj.1 (by show (d[i]).toNat = 12; omega); rw [h'] at hbyte; cases hbyte
          have e255 : (((d[i]).toNat : Int) == 255) = false := by
            rw [beq_eq_false_iff_ne]; intro h; have h' : d[i] = 255 := UInt8.toNat_inj.1 (by show (d[i]).toNat = 255; omega); rw [h'] at hbyte; cases hbyte
          clear hI hH1 hU1 heq hnt hnd hbyte h10
          cases e60 : (((d[i]).toNat : Int) == 60) <;> cases e38 : (((d[i]).toNat : Int) == 38)
          all_goals
            go_wp2_with fail
            go_roundg (d.length - (i + 1))
            case measure => have := HIK.out; omega
            case rel => exact ⟨n, i + 1, rfl, by go_num, by omega, by omega, HW.out.skip hni hlt HNe.out⟩
      · obtain rfl : i = d.length := by have := HIK.out; omega
        obtain ⟨inner, t, ⟨H1, hI, hH1, hU1⟩, heq, hnt, hnd⟩ := hW
        rw [List.take_length] at hnd
        have hnI : (n : Int) ≤ (d.length : Int) := by omega
        have hlen : t.length + (d.length - n) ≤ LIM := by
          have h1 := congrArg List.length heq
          have h2 := HL.out
          simp only [List.length_append, List.length_take] at h1 h2
          omega
        obtain ⟨Q, HQ, HC⟩ := callsVarV (C := fun v => SliceRd wr H1 v (d.drop n)) fun v hv => tw_append_idle hs hI hv (by rw [List.length_drop]; exact hlen)
        have HEq := Lib.hid heq
        have HNo := Lib.hid (And.intro hnt hnd)
        have HH1 := Lib.hid hH1
        have HU1 := Lib.hid hU1
        have hend : ∀ w1, TwDone S tb H1 inner (t ++ d.drop n) twd fg wr w1 → TwDone S tb H inner (t ++ d.drop n) twd fg (w.alloc (.cells #[.nilIface] 35)) w1 := fun w1 h => TwDone.of h hH1 hU1
        have HEnd := Lib.hid hend
        have HFinal : RowKit.Hid (inner ++ (t ++ d.drop n) = inner0 ++ t0 ++ d ∧ ∀ c ∈ t ++ d.drop n, c ≠ 10) := by
          refine ⟨by rw [← List.append_assoc, heq, List.append_assoc, List.take_append_drop], fun c hc => ?_⟩
          rcases List.mem_append.1 hc with h | h
          · exact hnt c h
          · exact hnd c h
        by_cases hcn : c = n
        · subst hcn
          have HS := Lib.hid (show SliceRd wr H1 (.slice (some a) (d.length - c) 0) (d.drop c) by
            have h := (HRd.out wr H1 hH1 hU1).sub_eq hni (Nat.le_refl _)
            rwa [List.take_length] at h)
          have hcap : (d.length : Int) ≤ (c : Int) := by
            by_cases h : d = []
            · subst h; simp
            · have := HCap.out h; omega
          clear hI hH1 hU1 heq hnt hnd hlen hend
          go_wp2_with (go_at_call 247; refine (HC.out _ HS.out).mono ?_)
          rintro e w1 hq
          obtain ⟨rfl, h1⟩ := HQ.out e w1 hq
          clear hq
          obtain ⟨hd, hbx⟩ := HFin.out _ _ _ (HEnd.out _ h1)
          have HD := Lib.hid hd
          clear h1 hd
          go_wp2_with fail
          refine leaves_cons (f := 157) (args := #[.pointer (some ⟨tb, 0, none⟩), .pointer (some ⟨w.heap.size, 0, none⟩), .string ⟨#[87, 114, 105, 116, 101]⟩]) (by simp) (Go.Proofs.enters_of Tryz.func157 (by kernel_rfl) rfl _ _) ?_
          refine (tw_handlePanic _ _ _ _).mono ?_
          rintro e u' w'' ⟨rfl, rfl, rfl⟩
          refine ⟨.tuple #[.int .i64 (d.length : Int), .nilIface], ?_, rfl, _, _, HD.out, HFinal.out.1, HFinal.out.2⟩
          simp [results, go_sem, hbx]
        · have HS := Lib.hid (show SliceRd wr H1 (.slice (some (a.add n)) (d.length - n) (c - n)) (d.drop n) by
            have h := (HRd.out wr H1 hH1 hU1).sub_ne hni (Nat.le_refl _) hcn
            rwa [List.take_length] at h)
          have hcap : (d.length : Int) ≤ (c : Int) := by
            by_cases h : d = []
            · subst h; simp
            · have := HCap.out h; omega
          clear hI hH1 hU1 heq hnt hnd hlen hend
          go_wp2_with (go_at_call 247; refine (HC.out _ HS.out).mono ?_)
          rintro e w1 hq
          obtain ⟨rfl, h1⟩ := HQ.out e w1 hq
          clear hq
          obtain ⟨hd, hbx⟩ := HFin.out _ _ _ (HEnd.out _ h1)
          have HD := Lib.hid hd
          clear h1 hd
          go_wp2_with fail
          refine leaves_cons (f := 157) (args := #[.pointer (some ⟨tb, 0, none⟩), .pointer (some ⟨w.heap.size, 0, none⟩), .string ⟨#[87, 114, 105, 116, 101]⟩]) (by simp) (Go.Proofs.enters_of Tryz.func157 (by kernel_rfl) rfl _ _) ?_
          refine (tw_handlePanic _ _ _ _).mono ?_
          rintro e u' w'' ⟨rfl, rfl, rfl⟩
          refine ⟨.tuple #[.int .i64 (d.length : Int), .nilIface], ?_, rfl, _, _, HD.out, HFinal.out.1, HFinal.out.2⟩
          simp [results, go_sem, hbx]
end Go.Proofs.YtmdkpihlhdjjaaaGreatFmt

namespace Go.Proofs.YtmdkpihlhdjjaaaGreatFmt
open Go.RowKit

/-- What has been written to the tabwriter: lines that are through, and text that waits. -/
def twI (S : Sink) (tb twd fg : Nat) (w : World) (H : Nat → Prop) (l : List UInt8) : Prop := ∃ inner t, TwIdle S tb w H inner t twd fg ∧ l = inner ++ t ∧ ∀ c ∈ t, c ≠ 10

def twSink (S : Sink) (tb twd fg : Nat) : Sink := ⟨73, ⟨tb, 0, none⟩, 245, twOk, twI S tb twd fg⟩

theorem tw_law {S : Sink} (hs : S.Law Tryz.prog 561) (hok : ∀ c, S.okb c = true) (tb twd fg : Nat) : (twSink S tb twd fg).Law Tryz.prog 561 where
  meth := fun w => by kernel_rfl
  ahead := fun w => by kernel_rfl
  enters := fun args w => by kernel_rfl
  stable := by
    rintro w w' F G l ⟨inner, t, h, e, hn⟩ hu hd
    exact ⟨inner, t, h.stable hs hu hd, e, hn⟩
  lt := by
    rintro w F l ⟨inner, t, h, e, hn⟩ k hk
    exact h.lt hs k hk
  write := by
    rintro w F l v d ⟨inner, t, h, e, hn⟩ hv hk hl
    refine (tw_Write hs hok h hn hv hk (by rw [← e]; exact hl)).mono ?_
    rintro e' w' ⟨rfl, inner', t', ⟨H', h1, h2, h3⟩, heq, hn'⟩
    exact ⟨rfl, H', ⟨inner', t', h1, by rw [e, heq], hn'⟩, h2, h3⟩


/-- The cells of the Writer's struct, whatever Init is to write anew. -/
def twRawCells (o a1 a2 a3 : Value) (p : Nat → Value) (fl vb : Value) (pos cs : Nat) (cw : Int) (ht : Bool) (vl vw : Value) : Array Value :=
  #[o, a1, a2, a3, p 0, p 1, p 2, p 3, p 4, p 5, p 6, p 7, fl, vb, .int .i64 (pos : Int), .int .i64 (cs : Int), .int .i64 cw, .bool ht, .int .u8 0, vl, vw]

/-- A Writer's struct as Init may find it; G holds its rows. -/
def TwRaw (tb : Nat) (w : World) (G : Nat → Prop) : Prop :=
  ∃ o a1 a2 a3 p fl vb t pos cs cw ht vl aw cap, w.heap[tb]? = some (.cells (twRawCells o a1 a2 a3 p fl vb pos cs cw ht vl (.slice aw 0 cap)) 82 (0, 0)) ∧ Row w vb t ∧ (∀ k, vb.ownBlock = some k → G k) ∧ (vl = .slice none 0 0 ∨ ∃ nl c0, TwLines w G vl nl c0) ∧
    ¬ G tb ∧ (∀ k, G k → k < w.heap.size)

theorem TwAt.raw {S : Sink} {tb : Nat} {w : World} {G Fs : Nat → Prop} {inner t : List UInt8} {twd fg pos cs : Nat} {cw : Int} {ht : Bool} {nl : Nat} {c0 : List TCell} (h : TwAt S tb w G Fs inner t twd fg pos cs cw ht nl c0) : TwRaw tb w G := by
  obtain ⟨vb, vl, aw, cap, hb, hr, hvb, hl, hI, hFt, hGt, hGF, hGl, hfg⟩ := h
  exact ⟨_, _, _, _, fun _ => .int .u8 32, _, vb, t, pos, cs, cw, ht, vl, aw, cap, hb, hr, hvb, .inr ⟨nl, c0, hl⟩, hGt, hGl⟩

theorem TwLines.stable' {w w' : World} {G F : Nat → Prop} {vl : Value} {nl : Nat} {c0 : List TCell} (h : TwLines w G vl nl c0) (hu : Upd F w w') (hd : ∀ k, G k → ¬ F k) : TwLines w' G vl nl c0 := by
  obtain ⟨L, cap, cur, v0, h1, h2, h3, h4, h5, h6, h7, h8, h9, h10, h11⟩ := h
  exact ⟨L, cap, cur, v0, h1, hu.heap h2 (hd L h7), h3, h4, h5, h6, h7, h8, own_stable h9 hu fun k hk => hd k (h10 k hk), h10, h11⟩

theorem TwRaw.stable {tb : Nat} {w w' : World} {G F : Nat → Prop} (h : TwRaw tb w G) (hu : Upd F w w') (hd : ∀ k, (k = tb ∨ G k) → ¬ F k) : TwRaw tb w' G := by
  obtain ⟨o, a1, a2, a3, p, fl, vb, t, pos, cs, cw, ht, vl, aw, cap, hb, hr, hvb, hl, hGt, hGl⟩ := h
  refine ⟨o, a1, a2, a3, p, fl, vb, t, pos, cs, cw, ht, vl, aw, cap, hu.heap hb (hd tb (.inl rfl)), hr.stable hu fun k hk => hd k (.inr (hvb k hk)), hvb, ?_, hGt, fun k hk => Nat.lt_of_lt_of_le (hGl k hk) hu.size⟩
  rcases hl with rfl | ⟨nl, c0, hl⟩
  · exact .inl rfl
  · exact .inr ⟨nl, c0, hl.stable' hu fun k hk => hd k (.inr hk)⟩

theorem TwRaw.zero {tb : Nat} {w : World} (h : w.heap[tb]? = some (.cells (twRawCells .nilIface (.int .i64 0) (.int .i64 0) (.int .i64 0) (fun _ => .int .u8 0) (.int .u64 0) (.slice none 0 0) 0 0 0 false (.slice none 0 0) (.slice none 0 0)) 82 (0, 0))) : TwRaw tb w (fun _ => False) :=
  ⟨_, _, _, _, _, _, _, [], 0, 0, 0, false, _, none, 0, h, Row.nil w, fun k hk => by simp [Value.ownBlock] at hk, .inl rfl, fun h => h, fun _ h => h.elim⟩

/-- The pad bytes, of which i are written. -/
def padded (p : Nat → Value) (i j : Nat) : Value := if j < i then .int .u8 32 else p j

theorem padded_step (o a1 a2 a3 : Value) (p : Nat → Value) (fl vb : Value) (pos cs : Nat) (cw : Int) (ht : Bool) (vl vw : Value) {i : Nat} (hi : i < 8) :
    (twRawCells o a1 a2 a3 (padded p i) fl vb pos cs cw ht vl vw).setIfInBounds (4 + i) (.int .u8 32) = twRawCells o a1 a2 a3 (padded p (i + 1)) fl vb pos cs cw ht vl vw := by
  rcases i with _ | _ | _ | _ | _ | _ | _ | _ | i
  all_goals first | omega | simp [twRawCells, padded]

theorem padded_at (o a1 a2 a3 : Value) (p : Nat → Value) (fl vb : Value) (pos cs : Nat) (cw : Int) (ht : Bool) (vl vw : Value) {i : Nat} (hi : i < 8) :
    ∃ v, (twRawCells o a1 a2 a3 p fl vb pos cs cw ht vl vw)[4 + i]? = some v := ⟨_, Array.getElem?_eq_getElem (by simp [twRawCells]; omega)⟩

set_option maxRecDepth 100000 in
set_option maxHeartbeats 4000000 in
/-- Init over a sink to which nothing has been written. -/
theorem tw_Init {S : Sink} (hs : S.Law Tryz.prog 561) {tb : Nat} {w : World} {G Fs : Nat → Prop} {twd fg : Nat} (h : TwRaw tb w G) (hI : S.I w Fs []) (hFt : ¬ Fs tb) (hGF : ∀ k, G k → ¬ Fs k) (hfg : fg = 10 ∨ fg = 26) :
    Calls Tryz.prog 36 #[.pointer (some ⟨tb, 0, none⟩), .iface S.ty (.pointer (some S.ptr)), .int .i64 0, .int .i64 (twd : Int), .int .i64 1, .int .u8 32, .int .u64 (fg : Int)] w fun e w' =>
      e = .returned (.pointer (some ⟨tb, 0, none⟩)) ∧ ∃ H', TwIdle S tb w' H' [] [] twd fg ∧ (∀ k, H' k → (k = tb ∨ G k ∨ Fs k) ∨ w.heap.size ≤ k) ∧ (∀ k, Fs k → H' k) ∧ Upd (fun k => k = tb ∨ G k) w w' := by
  obtain ⟨o, a1, a2, a3, p, fl, vb, t, pos, cs, cw, ht, vl, aw, cap, hb, hr, hvb, hlines, hGt, hGl⟩ := h
  have c0 : w.cell? ⟨tb, 0, none⟩ = some o := cell_at hb 0
  have c1 : w.cell? ⟨tb, 1, none⟩ = some a1 := cell_at hb 1
  have c2 : w.cell? ⟨tb, 2, none⟩ = some a2 := cell_at hb 2
  have c3 : w.cell? ⟨tb, 3, none⟩ = some a3 := cell_at hb 3
  have f0 : w.frozen? ⟨tb, 0, none⟩ = false := frozen_at hb 0
  have f1 : w.frozen? ⟨tb, 1, none⟩ = false := frozen_at hb 1
  have f2 : w.frozen? ⟨tb, 2, none⟩ = false := frozen_at hb 2
  have f3 : w.frozen? ⟨tb, 3, none⟩ = false := frozen_at hb 3
  have hnt : ¬ (twd : Int) < 0 := by omega
  obtain ⟨W0, hW0⟩ : ∃ W0, W0 = ((((w.setCell ⟨tb, 0, none⟩ (.iface S.ty (.pointer (some S.ptr)))).setCell ⟨tb, 1, none⟩ (.int .i64 0)).setCell ⟨tb, 2, none⟩ (.int .i64 (twd : Int))).setCell ⟨tb, 3, none⟩ (.int .i64 1)) := ⟨_, rfl⟩
  have hb0 : W0.heap[tb]? = some (.cells (twRawCells (.iface S.ty (.pointer (some S.ptr))) (.int .i64 0) (.int .i64 (twd : Int)) (.int .i64 1) p fl vb pos cs cw ht vl (.slice aw 0 cap)) 82 (0, 0)) := by
    rw [hW0]
    refine (heap_setCell_at _ (heap_setCell_at _ (heap_setCell_at _ (heap_setCell_at _ hb)))).trans ?_
    simp [twRawCells]
  have hu0 : Upd (fun k => k = tb) w W0 := by
    rw [hW0]
    exact Upd.setCell (F := fun k => k = tb) (Upd.setCell (F := fun k => k = tb) (Upd.setCell (F := fun k => k = tb) (Upd.setCell (F := fun k => k = tb) (Upd.refl _ w) (p := ⟨tb, 0, none⟩) (.inl rfl) _) (p := ⟨tb, 1, none⟩) (.inl rfl) _) (p := ⟨tb, 2, none⟩) (.inl rfl) _) (p := ⟨tb, 3, none⟩) (.inl rfl) _
  have hfin : ∀ W, W.heap[tb]? = some (.cells (twRawCells (.iface S.ty (.pointer (some S.ptr))) (.int .i64 0) (.int .i64 (twd : Int)) (.int .i64 1) (padded p 8) (.int .u64 (fg : Int)) vb pos cs cw ht vl (.slice aw 0 cap)) 82 (0, 0)) → Upd (fun k => k = tb) w W →
      TwPre S tb W G Fs [] twd fg := fun W hW hu => by
    refine ⟨vb, t, pos, cs, cw, ht, vl, aw, cap, hW, hr.stable hu fun k hk e => hGt (e ▸ hvb k hk), hvb, ?_, hs.stable hI hu fun k hk e => hFt (e ▸ hk), hFt, hGt, hGF, fun k hk => Nat.lt_of_lt_of_le (hGl k hk) hu.size, hfg⟩
    rcases hlines with rfl | ⟨nl, c0, hl⟩
    · exact .inl rfl
    · exact .inr ⟨nl, c0, hl.stable' hu fun k hk e => hGt (e ▸ hk)⟩
  have HFin := Lib.hid hfin
  have HB0 := Lib.hid hb0
  have HU0 := Lib.hid hu0
  clear hfin hb0 hu0 hb hr hvb hlines hGt hGl hI hFt hGF hfg
  go_enter Tryz.func36, Tryz.ntmps36
  go_wp2_with fail
  rw [← hW0]
  clear hW0
  go_loopg [43] 8 (fun k v43 wr => ∃ i : Nat, v43 = .int .i64 (i : Int) ∧ i + k = 8 ∧ wr.heap[tb]? = some (.cells (twRawCells (.iface S.ty (.pointer (some S.ptr))) (.int .i64 0) (.int .i64 (twd : Int)) (.int .i64 1) (padded p i) fl vb pos cs cw ht vl (.slice aw 0 cap)) 82 (0, 0)) ∧ Upd (fun k => k = tb) w wr)
  case atStart => exact ⟨0, rfl, rfl, by have := HB0.out; simpa [padded, twRawCells] using this, HU0.out⟩
  case round =>
    obtain ⟨i, rfl, hik, hbr, hur⟩ := hrel
    have HBr := Lib.hid hbr
    have HUr := Lib.hid hur
    have HIK := Lib.hid hik
    by_cases hlt : i < 8
    · have hltI : (i : Int) < 8 := by omega
      obtain ⟨v, hv⟩ := padded_at (.iface S.ty (.pointer (some S.ptr))) (.int .i64 0) (.int .i64 (twd : Int)) (.int .i64 1) (padded p i) fl vb pos cs cw ht vl (.slice aw 0 cap) hlt
      have ci : wr.cell? ⟨tb, 4 + i, none⟩ = some v := by rw [cell_at hbr]; exact hv
      have fi : wr.frozen? ⟨tb, 4 + i, none⟩ = false := frozen_at hbr _
      clear hbr hur hik hv
      go_wp2_with fail
      go_roundg (8 - (i + 1))
      case measure => have := HIK.out; omega
      case rel =>
        refine ⟨i + 1, by go_num, by have := HIK.out; omega, ?_, HUr.out.setCell (p := ⟨tb, 4 + i, none⟩) (.inl rfl) _⟩
        rw [← padded_step _ _ _ _ _ _ _ _ _ _ _ _ _ hlt]
        exact heap_setCell_at _ HBr.out
    · obtain rfl : i = 8 := by omega
      have c12 : wr.cell? ⟨tb, 12, none⟩ = some fl := cell_at hbr 12
      have f12 : wr.frozen? ⟨tb, 12, none⟩ = false := frozen_at hbr 12
      have hpre := HFin.out (wr.setCell ⟨tb, 12, none⟩ (.int .u64 (fg : Int))) (by
        refine (heap_setCell_at _ hbr).trans ?_
        simp [twRawCells]) (hur.setCell (p := ⟨tb, 12, none⟩) (.inl rfl) _)
      have HU2 := Lib.hid (hur.setCell (p := ⟨tb, 12, none⟩) (.inl rfl) (.int .u64 (fg : Int)))
      obtain ⟨Q, HQ, HC⟩ := callsVar (tw_reset hs hpre)
      clear hbr hur hik hpre
      go_wp2_with (go_at_call 62; refine HC.out.mono ?_)
      rintro e w2 hq
      obtain ⟨rfl, hP⟩ := HQ.out e w2 hq
      clear hq
      have HP := Lib.hid hP; clear hP
      go_wp2_with fail
      go_ret
      obtain ⟨G', h1, h2, h3⟩ := HP.out
      refine ⟨rfl, fun k => k = tb ∨ G' k ∨ Fs k, ⟨G', Fs, h1, fun k => Iff.rfl⟩, fun k hk => ?_, fun k hk => .inr (.inr hk), (HU2.out.mono fun k hk => .inl hk).trans h3⟩
      rcases hk with hk | hk | hk
      · exact .inl (.inl hk)
      · rcases h2 k hk with h | h
        · exact .inl (.inr (.inl h))
        · exact .inr (Nat.le_trans HU2.out.size h)
      · exact .inl (.inr (.inr hk))
end Go.Proofs.YtmdkpihlhdjjaaaGreatFmt
