/-
  The Printer's advanceLine; wordParts of unquoted literals; word.
  A Word of literals: Word.Pos; the Printer's word.
  The Printer in use: its state as a record of what matters; what lay there when the use began is kept.
  The Printer in use: what is written byte by byte and in texts; space, spacePad, wantsNewline, advanceLine, spacedString, spacedToken, writeLit, word.
-/
import Derived.Test.YtmdkpihlhdjjaaaGreatFmtKPwAX
namespace Go.Proofs.YtmdkpihlhdjjaaaGreatFmt
open Go.RowKit

set_option maxRecDepth 100000 in
theorem pe_advance {pb : Nat} {w : World} {wv tv cv : Value} {s : PS} (h : PCell pb w wv tv cv s) (L : Nat) :
    Calls Tryz.prog 69 #[.pointer (some ⟨pb, 0, none⟩), .int .u64 (L : Int)] w fun e w' => e = .returned (.tuple #[]) ∧ PCell pb w' wv tv cv { s with ln := max s.ln L } ∧ Upd (fun k => k = pb) w w' := by
  have c19 : w.cell? ⟨pb, 19, none⟩ = some (.int .u64 (s.ln : Int)) := h.at 19
  have f19 := h.fr 19
  have hmax : max (s.ln : Int) (L : Int) = ((max s.ln L : Nat) : Int) := by omega
  have HA := Lib.hid h
  clear h
  go_enter Tryz.func69, Tryz.ntmps69
  go_wp2
  go_end0
  exact ⟨rfl, HA.out.set rfl, (Upd.refl (fun k => k = pb) w).setCell (p := ⟨pb, 19, none⟩) (.inl rfl) _⟩

theorem lit_meth_pos (lb : Nat) : ∀ w, (method 561 183 (.pointer (some ⟨lb, 0, none⟩)) "Pos").run Tryz.prog w = .ok (115, .pointer (some ⟨lb, 0, none⟩)) w := fun w => by kernel_rfl
theorem lit_ahead_pos (lb : Nat) : ∀ w, (nilAhead 561 183 (.pointer (some ⟨lb, 0, none⟩)) "Pos").run Tryz.prog w = .ok (some false) w := fun w => by kernel_rfl
theorem lit_meth_end (lb : Nat) : ∀ w, (method 561 183 (.pointer (some ⟨lb, 0, none⟩)) "End").run Tryz.prog w = .ok (255, .pointer (some ⟨lb, 0, none⟩)) w := fun w => by kernel_rfl
theorem lit_ahead_end (lb : Nat) : ∀ w, (nilAhead 561 183 (.pointer (some ⟨lb, 0, none⟩)) "End").run Tryz.prog w = .ok (some false) w := fun w => by kernel_rfl

/-- A literal part: its block, its two positions, its text. -/
structure LitP where
  lb : Nat
  o1 : Nat
  l1 : Nat
  o2 : Nat
  l2 : Nat
  v : ByteArray

def LitP.ok (G : Nat → Prop) (w : World) (p : LitP) : Prop := LitAt p.lb w p.o1 p.l1 p.o2 p.l2 p.v ∧ ¬ G p.lb ∧ p.l1 < 4294967296 ∧ p.l2 < 4294967296
def litIf (p : LitP) : Value := .iface 183 (.pointer (some ⟨p.lb, 0, none⟩))

/-- The parts of a word lie at block rb; none of the blocks is one of G. -/
def PartsAt (G : Nat → Prop) (rb : Nat) (w : World) (ps : List LitP) : Prop :=
  w.heap[rb]? = some (.cells (ps.map litIf).toArray 113 (0, 0)) ∧ ¬ G rb ∧ ∀ p ∈ ps, p.ok G w

theorem PartsAt.next {G G' : Nat → Prop} {rb : Nat} {w w' : World} {ps : List LitP} (h : PartsAt G rb w ps) (hu : Upd G w w') (hG : ∀ k, G' k → G k ∨ w.heap.size ≤ k) : PartsAt G' rb w' ps := by
  obtain ⟨h1, h2, h3⟩ := h
  have hn : ∀ k, k < w.heap.size → ¬ G k → ¬ G' k := fun k hk hn hh => by
    rcases hG k hh with h | h
    · exact hn h
    · omega
  refine ⟨hu.heap h1 h2, hn rb (heap_lt h1) h2, fun p hp => ?_⟩
  obtain ⟨a1, a2, a3⟩ := h3 p hp
  exact ⟨hu.heap a1 a2, hn _ (heap_lt a1) a2, a3⟩

def partsText (ps : List LitP) : List UInt8 := ps.flatMap fun p => litText p.v.data.toList
def partsSize (ps : List LitP) : Nat := (ps.map fun p => p.v.size + 1).sum
def partsLn (ln : Nat) (ps : List LitP) : Nat := ps.foldl (fun a p => max a (p.l2 / 16384)) ln

theorem litText_len (v : ByteArray) : (litText v.data.toList).length ≤ v.size + 1 := by
  have h : v.data.toList.length = v.size := rfl
  unfold litText
  split <;> simp [h]
theorem partsText_len (ps : List LitP) : (partsText ps).length ≤ partsSize ps := by
  induction ps with
  | nil => simp [partsText, partsSize]
  | cons p r ih =>
    have := litText_len p.v
    simp only [partsText, partsSize, List.flatMap_cons, List.length_append, List.map_cons, List.sum_cons] at ih ⊢
    omega
theorem partsSize_split (ps : List LitP) (j : Nat) (hj : j < ps.length) : partsSize (ps.take j) + (ps[j].v.size + 1) ≤ partsSize ps := by
  have h : ps = ps.take j ++ ps[j] :: ps.drop (j + 1) := by rw [← List.drop_eq_getElem_cons hj, List.take_append_drop]
  calc partsSize (ps.take j) + (ps[j].v.size + 1) ≤ partsSize (ps.take j ++ ps[j] :: ps.drop (j + 1)) := by
        simp only [partsSize, List.map_append, List.sum_append, List.map_cons, List.sum_cons]; omega
    _ = partsSize ps := by rw [← h]
theorem partsSize_length (ps : List LitP) : ps.length ≤ partsSize ps := by
  induction ps with
  | nil => simp
  | cons p r ih =>
    simp only [partsSize, List.map_cons, List.sum_cons, List.length_cons] at ih ⊢
    omega
theorem partsText_take (ps : List LitP) (j : Nat) (hj : j < ps.length) : partsText (ps.take (j + 1)) = partsText (ps.take j) ++ litText ps[j].v.data.toList := by
  rw [List.take_succ_eq_append_getElem hj]
  simp only [partsText, List.flatMap_append, List.flatMap_cons, List.flatMap_nil, List.append_nil]
theorem partsLn_take (ln : Nat) (ps : List LitP) (j : Nat) (hj : j < ps.length) : partsLn ln (ps.take (j + 1)) = max (partsLn ln (ps.take j)) (ps[j].l2 / 16384) := by
  rw [List.take_succ_eq_append_getElem hj]
  simp only [partsLn, List.foldl_append, List.foldl_cons, List.foldl_nil]

/-- What the loop of wordParts keeps. -/
def WpInv (T : Sink) (pb b : Nat) (tv : Value) (w : World) (F : Nat → Prop) (l : List UInt8) (s : PS) (rb : Nat) (ps : List LitP) (j : Nat) (wr : World) : Prop :=
  ∃ Fr, PW T pb b tv wr Fr (l ++ partsText (ps.take j)) { s with ln := partsLn s.ln (ps.take j) } ∧ (∀ k, Fr k → F k ∨ w.heap.size ≤ k) ∧ Upd (fun k => k = pb ∨ F k) w wr ∧ PartsAt (fun k => k = pb ∨ Fr k) rb wr ps

set_option maxRecDepth 100000 in
set_option maxHeartbeats 4000000 in
/-- The loop's round where a part is left: the contract of each call that it makes. -/
theorem wp_round {T : Sink} (hs : T.Law Tryz.prog 561) (hsw : T.WStr Tryz.prog) (h92 : T.okb 92 = true) {pb b : Nat} {tv : Value} {w : World} {F : Nat → Prop} {l : List UInt8} {s : PS} {rb : Nat} {ps : List LitP} {j : Nat} {wr : World}
    (h : WpInv T pb b tv w F l s rb ps j wr) (hj : j < ps.length) (hv : ∀ p ∈ ps, ∀ x ∈ p.v.data.toList, T.okb x = true ∧ x ≠ 9) (hl : l.length + partsSize ps ≤ LIM) (nx : Value) (W : World) (hW : Upd (fun _ => False) wr W) :
    Calls Tryz.prog 43 #[.pointer (some ⟨pb, 0, none⟩), .iface 183 (.pointer (some ⟨(ps[j]'hj).lb, 0, none⟩)), nx] W fun e w' => e = .returned (.tuple #[]) ∧
      LitAt (ps[j]'hj).lb w' (ps[j]'hj).o1 (ps[j]'hj).l1 (ps[j]'hj).o2 (ps[j]'hj).l2 (ps[j]'hj).v ∧
      ∀ w2, Upd (fun _ => False) w' w2 → Calls Tryz.prog 69 #[.pointer (some ⟨pb, 0, none⟩), .int .u64 (((ps[j]'hj).l2 / 16384 : Nat) : Int)] w2 fun e w3 => e = .returned (.tuple #[]) ∧ WpInv T pb b tv w F l s rb ps (j + 1) w3 := by
  obtain ⟨Fr, hP, hFr, hU, hA⟩ := h
  have hm : ps[j] ∈ ps := List.getElem_mem hj
  obtain ⟨hL, hnb, hl1, hl2⟩ := hA.2.2 _ hm
  have hP0 := hP.stable hs hW (fun h => h) fun _ _ h => h
  have hlen : (l ++ partsText (ps.take j)).length + (ps[j].v.size + 1) ≤ LIM := by
    have h1 := partsText_len (ps.take j)
    have h2 := partsSize_split ps j hj
    rw [List.length_append]
    omega
  refine (p_wordPart_lit hs hsw h92 hP0 (hW.heap hL fun h => h) (fun e => hnb (.inl e)) (fun e => hnb (.inr e)) nx (fun x hx => (hv _ hm x hx).1) (fun x hx => (hv _ hm x hx).2) (by omega)).mono ?_
  rintro e w' ⟨rfl, F1, hP1, hF1, hU1⟩
  have hL' : LitAt ps[j].lb w' ps[j].o1 ps[j].l1 ps[j].o2 ps[j].l2 ps[j].v := hU1.heap (hW.heap hL fun h => h) hnb
  refine ⟨rfl, hL', fun w2 hW2 => ?_⟩
  have hP2 := hP1.stable hs hW2 (fun h => h) fun _ _ h => h
  refine (pe_advance hP2.cell (ps[j].l2 / 16384)).mono ?_
  rintro e w3 ⟨rfl, hc3, hu3⟩
  have hz := hW.size
  have hF1w : ∀ k, F1 k → Fr k ∨ wr.heap.size ≤ k := fun k hk => (hF1 k hk).imp id fun h => Nat.le_trans hz h
  have hU13 : Upd (fun k => k = pb ∨ Fr k) wr w3 := (((hW.mono fun _ h => h.elim).trans hU1).trans (hW2.mono fun _ h => h.elim)).trans (hu3.mono fun _ h => .inl h)
  refine ⟨rfl, F1, ⟨?_, ?_, hP2.np⟩, fun k hk => ?_, hU.trans' hU13 fun k hk => ?_, hA.next hU13 fun k hk => ?_⟩
  · rw [partsLn_take _ _ _ hj]
    exact hc3
  · rw [partsText_take _ _ hj, ← List.append_assoc]
    exact hP2.buf.stable hs hu3 fun _ hk e => hP2.np (e ▸ hk)
  · rcases hF1w k hk with h | h
    · exact hFr k h
    · exact .inr (Nat.le_trans hU.size h)
  · rcases hk with h | h
    · exact .inl (.inl h)
    · exact (hFr k h).imp (fun h => .inr h) id
  · rcases hk with h | h
    · exact .inl (.inl h)
    · exact (hF1w k h).imp (fun h => .inr h) id

set_option maxRecDepth 100000 in
set_option maxHeartbeats 4000000 in
/-- wordParts, unquoted. -/
theorem p_wordParts {T : Sink} (hs : T.Law Tryz.prog 561) (hsw : T.WStr Tryz.prog) (h92 : T.okb 92 = true) {pb b : Nat} {tv : Value} {w : World} {F : Nat → Prop} {l : List UInt8} {s : PS} (h : PW T pb b tv w F l s) {rb c : Nat} {ps : List LitP}
    (hP : PartsAt (fun k => k = pb ∨ F k) rb w ps) (hne : ps ≠ []) (hln : ∀ p r, ps = p :: r → p.l1 / 16384 ≤ s.ln) (hv : ∀ p ∈ ps, ∀ x ∈ p.v.data.toList, T.okb x = true ∧ x ≠ 9) (hl : l.length + partsSize ps ≤ LIM) :
    Calls Tryz.prog 102 #[.pointer (some ⟨pb, 0, none⟩), .slice (some ⟨rb, 0, none⟩) ps.length c, .bool false] w fun e w' => e = .returned (.tuple #[]) ∧ PWr T pb b tv w F (l ++ partsText ps) { s with ln := partsLn s.ln ps } w' := by
  obtain ⟨n, hn⟩ : ∃ n, n = ps.length := ⟨_, rfl⟩
  have hlp := partsSize_length ps
  have hnI : (n : Int) ≤ 1099511627776 := by unfold LIM at hl; omega
  have hpos : 0 < n := by rw [hn]; exact List.length_pos_iff.2 hne
  have hposI : (0 : Int) < (n : Int) := by omega
  rw [← hn]
  have c11 : w.cell? ⟨pb, 11, none⟩ = some (.bool s.si) := h.cell.at 11
  have c19 : w.cell? ⟨pb, 19, none⟩ = some (.int .u64 (s.ln : Int)) := h.cell.at 19
  obtain ⟨p0, hp0⟩ : ∃ p0, ps[0]? = some p0 := ⟨ps[0]'(by omega), List.getElem?_eq_getElem _⟩
  have cr0 : w.cell? ⟨rb, 0, none⟩ = some (.iface 183 (.pointer (some ⟨p0.lb, 0, none⟩))) := by
    rw [cell_at hP.1 0]; simp [hp0, litIf]
  have hp0m : p0 ∈ ps := List.mem_of_getElem? hp0
  have hL0 := (hP.2.2 p0 hp0m).1
  have hl10 := (hP.2.2 p0 hp0m).2.2.1
  have hle : ¬ (s.ln : Int) < ((p0.l1 / 16384 : Nat) : Int) := by
    obtain ⟨q, r, hqr⟩ := List.exists_cons_of_ne_nil hne
    have := hln q r hqr
    rw [hqr] at hp0
    obtain rfl : q = p0 := by simpa using hp0
    omega
  have hm1 := lit_meth_pos p0.lb
  have ha1 := lit_ahead_pos p0.lb
  have HStart := Lib.hid (fun W (hW : Upd (fun _ => False) w W) => show WpInv T pb b tv w F l s rb ps 0 W from
    ⟨F, by simpa [partsText, partsLn] using h.stable hs hW (fun h => h) fun _ _ h => h, fun k hk => .inl hk, hW.mono fun _ h => h.elim, hP.next (hW.mono fun _ h => h.elim) fun k hk => .inl hk⟩)
  have HV := Lib.hid (And.intro hv hl)
  have HA := Lib.hid h
  have HL0 := Lib.hid hL0
  have HN := Lib.hid hn
  clear h hP hne hln hv hl hlp hp0 hp0m hL0 hn
  rcases Bool.eq_false_or_eq_true s.si with hsi | hsi
  rotate_left
  · rw [hsi] at c11
    go_enter Tryz.func102, Tryz.ntmps102
    go_wp2_with fail
    go_region_held3 (fun w' => w'.cell? ⟨pb, 11, none⟩ = some (.bool false) ∧ w'.cell? ⟨pb, 19, none⟩ = some (.int .u64 (s.ln : Int)) ∧ w'.cell? ⟨rb, 0, none⟩ = some (.iface 183 (.pointer (some ⟨p0.lb, 0, none⟩)))) (first | exact ⟨c11, c19, cr0⟩ | exact ⟨k1, k2, k3⟩ | exact ⟨m1, m2, m3⟩ | simp [go_sem, *])
      (first
        | (go_at_call 115; refine (lit_pos (w := w.drew) HL0.out).mono ?_; rintro e w1 ⟨rfl, hu1⟩
           have k1 := hu1.cell (show w.drew.cell? ⟨pb, 11, none⟩ = _ from c11) fun h => h
           have k2 := hu1.cell (show w.drew.cell? ⟨pb, 19, none⟩ = _ from c19) fun h => h
           have k3 := hu1.cell (show w.drew.cell? ⟨rb, 0, none⟩ = _ from cr0) fun h => h
           have HU1 := Lib.hid hu1
           clear hu1)
        | (go_at_call 41; refine (pos_line _ _ hl10 _).mono ?_; rintro e w2 ⟨rfl, hu2⟩
           have m1 := hu2.cell k1 fun h => h
           have m2 := hu2.cell k2 fun h => h
           have m3 := hu2.cell k3 fun h => h
           have HU2 := Lib.hid (HU1.out.trans hu2)
           clear hu2))
    have HW2 := Lib.hid (((Upd.refl (fun _ => False) w).drew).trans HU2.out)
    clear HU1 HU2
    go_wp2_with fail
    go_loopg [34] n (fun k v34 wr => ∃ j : Nat, v34 = .int .i64 (j : Int) ∧ j + k = n ∧ WpInv T pb b tv w F l s rb ps j wr)
    case atStart => exact ⟨0, rfl, by omega, HStart.out _ HW2.out⟩
    case round =>
      obtain ⟨j, rfl, hjk, hI⟩ := hrel
      have HJ := Lib.hid hjk
      clear hjk
      by_cases hlt : j < n
      · have hltI : (j : Int) < (n : Int) := by omega
        have hj : j < ps.length := by rw [← HN.out]; exact hlt
        have hrow : ∀ i (hi : i < ps.length), wr.cell? ⟨rb, i, none⟩ = some (.iface 183 (.pointer (some ⟨(ps[i]'hi).lb, 0, none⟩))) := fun i hi => by
          obtain ⟨Fr, hP, hFr, hU, hA⟩ := hI
          rw [cell_at hA.1 i]
          simp [litIf, hi]
        have crj := hrow j hj
        have hm2 := lit_meth_end (ps[j]'hj).lb
        have ha2 := lit_ahead_end (ps[j]'hj).lb
        have hl2j : (ps[j]'hj).l2 < 4294967296 := by
          obtain ⟨Fr, hP, hFr, hU, hA⟩ := hI
          exact (hA.2.2 _ (List.getElem_mem hj)).2.2.2
        have HR := Lib.hid (fun nx W hW => wp_round hs hsw h92 hI hj HV.out.1 HV.out.2 nx W hW)
        obtain ⟨q, hq⟩ : ∃ q, q = ps[j]'hj := ⟨_, rfl⟩
        rw [← hq] at crj hm2 ha2 hl2j HR
        have HRow := Lib.hid hrow
        have HL2 := Lib.hid hl2j
        clear hI hrow hq hl2j
        by_cases hn1 : j + 1 < n
        · have hn1I : (j : Int) + 1 < (n : Int) := by omega
          have crn := HRow.out (j + 1) (by rw [← HN.out]; exact hn1)
          go_wp2_with fail
          go_loopg [] 0 (fun _ wx => wx = wr)
          case atStart => rfl
          case round =>
            obtain rfl := hrel
            go_wp2_with fail
            go_region
            go_wp2_with (first
              | (go_at_call 43; refine (HR.out _ _ ((Upd.refl _ _).drew)).mono ?_; rintro e w4 ⟨rfl, hL4, hadv⟩; have HL4 := Lib.hid hL4; have HAdv := Lib.hid hadv; clear hL4 hadv)
              | (go_at_call 255; refine (lit_end HL4.out).mono ?_; rintro e w5 ⟨rfl, hu5⟩; have HU5 := Lib.hid hu5; clear hu5)
              | (go_at_call 41; refine (pos_line _ _ HL2.out _).mono ?_; rintro e w6 ⟨rfl, hu6⟩; have HU6 := Lib.hid (HU5.out.trans hu6); clear hu6)
              | (go_at_call 69; refine (HAdv.out _ HU6.out).mono ?_; rintro e w7 ⟨rfl, hI7⟩; have HI7 := Lib.hid hI7; clear hI7))
            go_roundg (n - (j + 1))
            case measure => have := HJ.out; omega
            case rel => exact ⟨j + 1, by go_num, by omega, HI7.out⟩
        · have hn1I : ¬ (j : Int) + 1 < (n : Int) := by omega
          go_wp2_with fail
          go_loopg [] 0 (fun _ wx => wx = wr)
          case atStart => rfl
          case round =>
            obtain rfl := hrel
            go_wp2_with fail
            go_region
            go_wp2_with (first
              | (go_at_call 43; refine (HR.out _ _ ((Upd.refl _ _).drew)).mono ?_; rintro e w4 ⟨rfl, hL4, hadv⟩; have HL4 := Lib.hid hL4; have HAdv := Lib.hid hadv; clear hL4 hadv)
              | (go_at_call 255; refine (lit_end HL4.out).mono ?_; rintro e w5 ⟨rfl, hu5⟩; have HU5 := Lib.hid hu5; clear hu5)
              | (go_at_call 41; refine (pos_line _ _ HL2.out _).mono ?_; rintro e w6 ⟨rfl, hu6⟩; have HU6 := Lib.hid (HU5.out.trans hu6); clear hu6)
              | (go_at_call 69; refine (HAdv.out _ HU6.out).mono ?_; rintro e w7 ⟨rfl, hI7⟩; have HI7 := Lib.hid hI7; clear hI7))
            go_roundg (n - (j + 1))
            case measure => have := HJ.out; omega
            case rel => exact ⟨j + 1, by go_num, by omega, HI7.out⟩
      · obtain rfl : j = n := by have := HJ.out; omega
        have HI := Lib.hid hI
        clear hI
        go_wp2_with fail
        go_end0
        obtain ⟨Fr, hP, hFr, hU, hA⟩ := HI.out
        rw [HN.out, List.take_length] at hP
        exact ⟨rfl, Fr, hP, hFr, hU⟩
  · rw [hsi] at c11
    go_enter Tryz.func102, Tryz.ntmps102
    go_wp2_with fail
    go_region
    have HW2 := Lib.hid ((Upd.refl (fun _ => False) w).drew)
    go_wp2_with fail
    go_loopg [34] n (fun k v34 wr => ∃ j : Nat, v34 = .int .i64 (j : Int) ∧ j + k = n ∧ WpInv T pb b tv w F l s rb ps j wr)
    case atStart => exact ⟨0, rfl, by omega, HStart.out _ HW2.out⟩
    case round =>
      obtain ⟨j, rfl, hjk, hI⟩ := hrel
      have HJ := Lib.hid hjk
      clear hjk
      by_cases hlt : j < n
      · have hltI : (j : Int) < (n : Int) := by omega
        have hj : j < ps.length := by rw [← HN.out]; exact hlt
        have hrow : ∀ i (hi : i < ps.length), wr.cell? ⟨rb, i, none⟩ = some (.iface 183 (.pointer (some ⟨(ps[i]'hi).lb, 0, none⟩))) := fun i hi => by
          obtain ⟨Fr, hP, hFr, hU, hA⟩ := hI
          rw [cell_at hA.1 i]
          simp [litIf, hi]
        have crj := hrow j hj
        have hm2 := lit_meth_end (ps[j]'hj).lb
        have ha2 := lit_ahead_end (ps[j]'hj).lb
        have hl2j : (ps[j]'hj).l2 < 4294967296 := by
          obtain ⟨Fr, hP, hFr, hU, hA⟩ := hI
          exact (hA.2.2 _ (List.getElem_mem hj)).2.2.2
        have HR := Lib.hid (fun nx W hW => wp_round hs hsw h92 hI hj HV.out.1 HV.out.2 nx W hW)
        obtain ⟨q, hq⟩ : ∃ q, q = ps[j]'hj := ⟨_, rfl⟩
        rw [← hq] at crj hm2 ha2 hl2j HR
        have HRow := Lib.hid hrow
        have HL2 := Lib.hid hl2j
        clear hI hrow hq hl2j
        by_cases hn1 : j + 1 < n
        · have hn1I : (j : Int) + 1 < (n : Int) := by omega
          have crn := HRow.out (j + 1) (by rw [← HN.out]; exact hn1)
          go_wp2_with fail
          go_loopg [] 0 (fun _ wx => wx = wr)
          case atStart => rfl
          case round =>
            obtain rfl := hrel
            go_wp2_with fail
            go_region
            go_wp2_with (first
              | (go_at_call 43; refine (HR.out _ _ ((Upd.refl _ _).drew)).mono ?_; rintro e w4 ⟨rfl, hL4, hadv⟩; have HL4 := Lib.hid hL4; have HAdv := Lib.hid hadv; clear hL4 hadv)
              | (go_at_call 255; refine (lit_end HL4.out).mono ?_; rintro e w5 ⟨rfl, hu5⟩; have HU5 := Lib.hid hu5; clear hu5)
              | (go_at_call 41; refine (pos_line _ _ HL2.out _).mono ?_; rintro e w6 ⟨rfl, hu6⟩; have HU6 := Lib.hid (HU5.out.trans hu6); clear hu6)
              | (go_at_call 69; refine (HAdv.out _ HU6.out).mono ?_; rintro e w7 ⟨rfl, hI7⟩; have HI7 := Lib.hid hI7; clear hI7))
            go_roundg (n - (j + 1))
            case measure => have := HJ.out; omega
            case rel => exact ⟨j + 1, by go_num, by omega, HI7.out⟩
        · have hn1I : ¬ (j : Int) + 1 < (n : Int) := by omega
          go_wp2_with fail
          go_loopg [] 0 (fun _ wx => wx = wr)
          case atStart => rfl
          case round =>
            obtain rfl := hrel
            go_wp2_with fail
            go_region
            go_wp2_with (first
              | (go_at_call 43; refine (HR.out _ _ ((Upd.refl _ _).drew)).mono ?_; rintro e w4 ⟨rfl, hL4, hadv⟩; have HL4 := Lib.hid hL4; have HAdv := Lib.hid hadv; clear hL4 hadv)
              | (go_at_call 255; refine (lit_end HL4.out).mono ?_; rintro e w5 ⟨rfl, hu5⟩; have HU5 := Lib.hid hu5; clear hu5)
              | (go_at_call 41; refine (pos_line _ _ HL2.out _).mono ?_; rintro e w6 ⟨rfl, hu6⟩; have HU6 := Lib.hid (HU5.out.trans hu6); clear hu6)
              | (go_at_call 69; refine (HAdv.out _ HU6.out).mono ?_; rintro e w7 ⟨rfl, hI7⟩; have HI7 := Lib.hid hI7; clear hI7))
            go_roundg (n - (j + 1))
            case measure => have := HJ.out; omega
            case rel => exact ⟨j + 1, by go_num, by omega, HI7.out⟩
      · obtain rfl : j = n := by have := HJ.out; omega
        have HI := Lib.hid hI
        clear hI
        go_wp2_with fail
        go_end0
        obtain ⟨Fr, hP, hFr, hU, hA⟩ := HI.out
        rw [HN.out, List.take_length] at hP
        exact ⟨rfl, Fr, hP, hFr, hU⟩
end Go.Proofs.YtmdkpihlhdjjaaaGreatFmt

namespace Go.Proofs.YtmdkpihlhdjjaaaGreatFmt
open Go.RowKit

/-- A Word lies at block wb; its parts at block rb. -/
def WordAt (G : Nat → Prop) (wb rb : Nat) (w : World) (ps : List LitP) : Prop :=
  (∃ c, w.heap[wb]? = some (.cells #[.slice (some ⟨rb, 0, none⟩) ps.length c] 229 (0, 0))) ∧ ¬ G wb ∧ PartsAt G rb w ps

theorem WordAt.next {G G' : Nat → Prop} {wb rb : Nat} {w w' : World} {ps : List LitP} (h : WordAt G wb rb w ps) (hu : Upd G w w') (hG : ∀ k, G' k → G k ∨ w.heap.size ≤ k) : WordAt G' wb rb w' ps := by
  obtain ⟨⟨c, h1⟩, h2, h3⟩ := h
  refine ⟨⟨c, hu.heap h1 h2⟩, fun hh => ?_, h3.next hu hG⟩
  rcases hG wb hh with h | h
  · exact h2 h
  · have := heap_lt h1; omega

set_option maxRecDepth 100000 in
set_option maxHeartbeats 2000000 in
theorem word_pos {wb rb : Nat} {w : World} {p : LitP} {ps : List LitP} {G : Nat → Prop} (h : WordAt G wb rb w (p :: ps)) (hlen : ps.length ≤ 1099511627776) :
    Calls Tryz.prog 40 #[.pointer (some ⟨wb, 0, none⟩)] w fun e w' => e = .returned (posV p.o1 p.l1) ∧ Upd (fun _ => False) w w' := by
  obtain ⟨⟨c, h1⟩, _, h3, _, h4⟩ := h
  obtain ⟨hL, _, _, _⟩ := h4 p (by simp)
  have c0 : w.cell? ⟨wb, 0, none⟩ = some (.slice (some ⟨rb, 0, none⟩) (p :: ps).length c) := cell_at h1 0
  have cr : w.cell? ⟨rb, 0, none⟩ = some (.iface 183 (.pointer (some ⟨p.lb, 0, none⟩))) := by rw [cell_at h3 0]; simp [litIf]
  have hm := lit_meth_pos p.lb
  have ha := lit_ahead_pos p.lb
  have hlw := heap_lt h1
  have hlr := heap_lt h3
  have hu0 : Upd (fun _ => False) w (w.alloc (.cells #[.int .u32 0, .int .u32 0] 40)) := (Upd.refl _ w).alloc _
  have HX := Lib.hid (heap_alloc_new w (.cells #[.int .u32 0, .int .u32 0] 40))
  have HU0 := Lib.hid hu0
  have HP := Lib.hid (lit_pos (hu0.heap hL fun h => h))
  obtain ⟨m, hm'⟩ : ∃ m, (p :: ps).length = m := ⟨_, rfl⟩
  have hmI : (0 : Int) < (m : Int) := by rw [← hm']; simp only [List.length_cons]; omega
  rw [hm'] at c0
  clear h1 h3 h4 hL hu0 hlen hm'
  go_enter Tryz.func40, Tryz.ntmps40
  go_wp2_with (go_at_call 115; refine HP.out.mono ?_)
  rintro e w1 ⟨rfl, hu1⟩
  have hX1 := hu1.heap HX.out fun h => h
  have x0 : w1.cell? ⟨w.heap.size, 0, none⟩ = some (.int .u32 0) := cell_at hX1 0
  have x1 : w1.cell? ⟨w.heap.size, 1, none⟩ = some (.int .u32 0) := cell_at hX1 1
  have f0 : w1.frozen? ⟨w.heap.size, 0, none⟩ = false := frozen_at hX1 0
  have f1 : w1.frozen? ⟨w.heap.size, 1, none⟩ = false := frozen_at hX1 1
  have HX1 := Lib.hid hX1
  have HU1 := Lib.hid (HU0.out.trans hu1)
  clear hX1 hu1
  go_wp2
  have hend : ((w1.setCell ⟨w.heap.size, 0, none⟩ (.int .u32 (p.o1 : Int))).setCell ⟨w.heap.size, 1, none⟩ (.int .u32 (p.l1 : Int))).heap[w.heap.size]? = some (.cells #[.int .u32 (p.o1 : Int), .int .u32 (p.l1 : Int)] 40 (0, 0)) := by
    refine (heap_setCell_at _ (heap_setCell_at _ HX1.out)).trans ?_
    simp
  refine bodyPost_ret (results_cell_row rfl _ _ w.heap.size _ _ (0, 0) _ rfl hend Tryz.underlying40 rfl (by kernel_rfl)) rfl ?_
  exact ⟨rfl, (HU1.out.setCell (.inr (Nat.le_refl _)) _).setCell (.inr (Nat.le_refl _)) _⟩

set_option maxRecDepth 100000 in
set_option maxHeartbeats 2000000 in
/-- The Printer's word. -/
theorem p_word {T : Sink} (hs : T.Law Tryz.prog 561) (hsw : T.WStr Tryz.prog) (h92 : T.okb 92 = true) {pb b : Nat} {tv : Value} {w : World} {F : Nat → Prop} {l : List UInt8} {s : PS} (h : PW T pb b tv w F l s) {wb rb : Nat} {ps : List LitP}
    (hW : WordAt (fun k => k = pb ∨ F k) wb rb w ps) (hne : ps ≠ []) (hln : ∀ p r, ps = p :: r → p.l1 / 16384 ≤ s.ln) (hv : ∀ p ∈ ps, ∀ x ∈ p.v.data.toList, T.okb x = true ∧ x ≠ 9) (hl : l.length + partsSize ps ≤ LIM) :
    Calls Tryz.prog 42 #[.pointer (some ⟨pb, 0, none⟩), .pointer (some ⟨wb, 0, none⟩)] w fun e w' => e = .returned (.tuple #[]) ∧ PWr T pb b tv w F (l ++ partsText ps) { s with ln := partsLn s.ln ps, ws := 1 } w' := by
  obtain ⟨⟨c, h1⟩, h2, h3⟩ := hW
  have c0 : w.cell? ⟨wb, 0, none⟩ = some (.slice (some ⟨rb, 0, none⟩) ps.length c) := cell_at h1 0
  obtain ⟨Q, HQ, HC⟩ := callsVar (p_wordParts hs hsw h92 h (c := c) h3 hne hln hv hl)
  clear h1 h2 h3 hne hln hv hl h
  go_enter Tryz.func42, Tryz.ntmps42
  go_wp2_with (go_at_call 102; refine HC.out.mono ?_)
  rintro e w1 hq
  obtain ⟨rfl, F1, hP1, hF1, hU1⟩ := HQ.out e w1 hq
  clear hq
  have c13 : w1.cell? ⟨pb, 13, none⟩ = some (.int .u8 (s.ws : Int)) := hP1.cell.at 13
  have f13 := hP1.cell.fr 13
  have HP1 := Lib.hid hP1
  have HU1 := Lib.hid (And.intro hF1 hU1)
  clear hP1 hF1 hU1
  go_wp2
  go_end0
  exact ⟨rfl, PWr.trans HU1.out.1 HU1.out.2 (HP1.out.set hs ((Upd.refl (fun k => k = pb) w1).setCell (p := ⟨pb, 13, none⟩) (.inl rfl) _) (HP1.out.cell.set rfl))⟩
end Go.Proofs.YtmdkpihlhdjjaaaGreatFmt

namespace Go.Proofs.YtmdkpihlhdjjaaaGreatFmt
open Go.RowKit

/-- What is asked of the sink behind the Printer's writer. -/
structure TOk (T : Sink) : Prop where
  law : T.Law Tryz.prog 561
  wstr : T.WStr Tryz.prog
  ok : ∀ c, twOk c = true → T.okb c = true

/-- The Printer's state, but for what nothing depends on. -/
structure VS where
  k : Nat
  bnl : Bool
  swt : Bool
  spr : Bool
  mi : Bool
  si : Bool
  fnl : Bool
  ws : Nat
  wn : Bool
  mn : Bool
  sm : Bool
  fl : Bool
  ln : Nat
  ll : Nat
  lv : Nat
  inc : List Bool
  nb : Bool

/-- What nothing depends on. -/
structure VH where
  pca : Option Addr
  pcc : Nat
  lia : Option Addr
  lic : Nat
  pha : Option Addr
  phc : Nat
  tp : Value

def VS.ps (v : VS) (h : VH) : PS where
  cc := 0
  cl := false
  k := v.k
  bnl := v.bnl
  swt := v.swt
  spr := v.spr
  kp := false
  mi := v.mi
  si := v.si
  fnl := v.fnl
  ws := v.ws
  wn := v.wn
  mn := v.mn
  sm := v.sm
  pca := h.pca
  pcc := h.pcc
  fl := v.fl
  ln := v.ln
  ll := v.ll
  lv := v.lv
  lia := h.lia
  lin := v.inc.length
  lic := h.lic
  nb := v.nb
  pha := h.pha
  phc := h.phc
  tp := h.tp

/-- The head of the row of the level's steps. -/
def VH.lev (h : VH) (inc : List Bool) : Value := .slice h.lia inc.length h.lic

/-- Where the use of the Printer began: the world, and the blocks that were its writer's or the row's. -/
structure Base where
  w0 : World
  F0 : Nat → Prop

def Base.At (B : Base) (pb : Nat) (k : Nat) (o : Obj) : Prop := B.w0.heap[k]? = some o ∧ k ≠ pb ∧ ¬ B.F0 k

structure PXr (T : Sink) (pb b : Nat) (tv : Value) (B : Base) (w : World) (F : Nat → Prop) (h : VH) (l : List UInt8) (v : VS) : Prop where
  cell : PCell pb w (.iface 71 (.pointer (some ⟨b, 0, none⟩))) tv (.pointer none) (v.ps h)
  buf : BufW T b w F l
  np : ¬ F pb
  lev : w.ownsRow 0 4 1 (h.lev v.inc) v.inc.length (v.inc.map .bool)
  ld : ∀ k, (h.lev v.inc).ownBlock = some k → (k ≠ pb ∧ ¬ F k) ∧ (B.F0 k ∨ B.w0.heap.size ≤ k)
  fr : ∀ k, F k → B.F0 k ∨ B.w0.heap.size ≤ k
  upd : Upd (fun k => k = pb ∨ B.F0 k) B.w0 w

/-- l has been written to the Printer's writer, its state is v. -/
def PX (T : Sink) (pb b : Nat) (tv : Value) (B : Base) (w : World) (l : List UInt8) (v : VS) : Prop := ∃ F h, PXr T pb b tv B w F h l v

theorem ownsRow_stable {w w' : World} {e : TypeId} {size : Nat} {v : Value} {n : Nat} {xs : List Value} {F : Nat → Prop} (h : w.ownsRow 0 e size v n xs) (hu : Upd F w w') (hn : ∀ k, v.ownBlock = some k → ¬ F k) : w'.ownsRow 0 e size v n xs := by
  refine ⟨h.1, ?_⟩
  rcases h.2 with h | ⟨g, cap, cur, rfl, h1, h2, h3⟩
  · exact .inl h
  · exact .inr ⟨g, cap, cur, rfl, h1, hu.heap h2 (hn g rfl), h3⟩

section
variable {P : Program} {fuel : Nat} {T : Sink} {pb b : Nat} {tv : Value} {B : Base} {w w' : World} {F : Nat → Prop} {h : VH} {l : List UInt8} {v : VS}

theorem PXr.pw (x : PXr T pb b tv B w F h l v) : PW T pb b tv w F l (v.ps h) := ⟨x.cell, x.buf, x.np⟩
theorem PXr.at (x : PXr T pb b tv B w F h l v) {k : Nat} {o : Obj} (hA : B.At pb k o) : w.heap[k]? = some o ∧ k ≠ pb ∧ ¬ F k :=
  ⟨x.upd.heap hA.1 fun e => e.elim hA.2.1 hA.2.2, hA.2.1, fun e => by
    rcases x.fr k e with h1 | h1
    · exact hA.2.2 h1
    · have := heap_lt hA.1
      omega⟩
theorem PX.at (x : PX T pb b tv B w l v) {k : Nat} {o : Obj} (hA : B.At pb k o) : w.heap[k]? = some o := by
  obtain ⟨F, h, x⟩ := x
  exact (x.at hA).1
theorem PXr.lev_lt (x : PXr T pb b tv B w F h l v) {k : Nat} (hk : (h.lev v.inc).ownBlock = some k) : k < w.heap.size := (x.lev.lt k hk).2

/-- From what a contract over the plain state leaves. -/
theorem PXr.pwr (x : PXr T pb b tv B w F h l v) {l' : List UInt8} {v' : VS} (hr : PWr T pb b tv w F l' (v'.ps h) w') (hi : v'.inc = v.inc) : PX T pb b tv B w' l' v' := by
  obtain ⟨F', hp, hF, hu⟩ := hr
  refine ⟨F', h, hp.cell, hp.buf, hp.np, ?_, ?_, ?_, ?_⟩
  · rw [hi]
    refine ownsRow_stable x.lev hu fun k hk e => ?_
    obtain ⟨⟨h1, h2⟩, _⟩ := x.ld k hk
    exact e.elim h1 h2
  · rw [hi]
    intro k hk
    obtain ⟨⟨h1, h2⟩, h3⟩ := x.ld k hk
    refine ⟨⟨h1, fun e => ?_⟩, h3⟩
    rcases hF k e with h4 | h4
    · exact h2 h4
    · have := x.lev_lt hk
      omega
  · intro k hk
    rcases hF k hk with h1 | h1
    · exact x.fr k h1
    · exact .inr (Nat.le_trans x.upd.size h1)
  · refine x.upd.trans' hu fun k hk => ?_
    rcases hk with h1 | h1
    · exact .inl (.inl h1)
    · exact (x.fr k h1).imp (fun h => .inr h) id

theorem PX.quiet (hT : TOk T) (x : PX T pb b tv B w l v) (hu : Upd (fun _ => False) w w') : PX T pb b tv B w' l v := by
  obtain ⟨F, h, x⟩ := x
  exact x.pwr (x.pw.quiet hT.law hu) rfl

/-- From what a contract over the Printer's cells leaves. -/
theorem PXr.cells (hT : TOk T) (x : PXr T pb b tv B w F h l v) {v' : VS} {h' : VH} (hc : PCell pb w' (.iface 71 (.pointer (some ⟨b, 0, none⟩))) tv (.pointer none) (v'.ps h')) (hu : Upd (fun k => k = pb) w w') (hh : h'.lia = h.lia ∧ h'.lic = h.lic) (hi : v'.inc = v.inc) : PX T pb b tv B w' l v' := by
  have e : h'.lev v'.inc = h.lev v.inc := by simp only [VH.lev, hh.1, hh.2, hi]
  refine ⟨F, h', hc, x.buf.stable hT.law hu fun k hk e => x.np (e ▸ hk), x.np, ?_, ?_, x.fr, x.upd.trans (hu.mono fun k hk => .inl hk)⟩
  · rw [e, hi]
    exact ownsRow_stable x.lev hu fun k hk e => (x.ld k hk).1.1 e
  · rw [e]
    exact x.ld

theorem PX.setc (hT : TOk T) (x : PX T pb b tv B w l v) {i : Nat} {val : Value} (v' : VS) (he : ∀ h, ((v.ps h).cells (.iface 71 (.pointer (some ⟨b, 0, none⟩))) tv (.pointer none)).setIfInBounds i val = (v'.ps h).cells (.iface 71 (.pointer (some ⟨b, 0, none⟩))) tv (.pointer none)) (hi : v'.inc = v.inc) : PX T pb b tv B (w.setCell ⟨pb, i, none⟩ val) l v' := by
  obtain ⟨F, h, x⟩ := x
  exact x.cells hT (x.cell.set (he h)) ((Upd.refl (fun k => k = pb) w).setCell (p := ⟨pb, i, none⟩) (.inl rfl) _) ⟨rfl, rfl⟩ hi

theorem PX.get (x : PX T pb b tv B w l v) (i : Nat) {val : Option Value} (hv : ∀ h, ((v.ps h).cells (.iface 71 (.pointer (some ⟨b, 0, none⟩))) tv (.pointer none))[i]? = val) : w.cell? ⟨pb, i, none⟩ = val := by
  obtain ⟨F, h, x⟩ := x
  exact (x.cell.at i).trans (hv h)
theorem PX.fz (x : PX T pb b tv B w l v) (i : Nat) : w.frozen? ⟨pb, i, none⟩ = false := by
  obtain ⟨F, h, x⟩ := x
  exact x.cell.fr i
theorem PX.lt (x : PX T pb b tv B w l v) : pb < w.heap.size := by
  obtain ⟨F, h, x⟩ := x
  exact heap_lt x.cell
theorem PX.c0 (x : PX T pb b tv B w l v) : w.cell? ⟨pb, 0, none⟩ = some (.iface 71 (.pointer (some ⟨b, 0, none⟩))) := x.get 0 fun _ => rfl
theorem PX.c3 (x : PX T pb b tv B w l v) : w.cell? ⟨pb, 3, none⟩ = some (.int .i64 0) := x.get 3 fun _ => rfl
theorem PX.c4 (x : PX T pb b tv B w l v) : w.cell? ⟨pb, 4, none⟩ = some (.bool false) := x.get 4 fun _ => rfl
theorem PX.c5 (x : PX T pb b tv B w l v) : w.cell? ⟨pb, 5, none⟩ = some (.int .u64 (v.k : Int)) := x.get 5 fun _ => rfl
theorem PX.c6 (x : PX T pb b tv B w l v) : w.cell? ⟨pb, 6, none⟩ = some (.bool v.bnl) := x.get 6 fun _ => rfl
theorem PX.c8 (x : PX T pb b tv B w l v) : w.cell? ⟨pb, 8, none⟩ = some (.bool v.spr) := x.get 8 fun _ => rfl
theorem PX.c9 (x : PX T pb b tv B w l v) : w.cell? ⟨pb, 9, none⟩ = some (.bool false) := x.get 9 fun _ => rfl
theorem PX.c10 (x : PX T pb b tv B w l v) : w.cell? ⟨pb, 10, none⟩ = some (.bool v.mi) := x.get 10 fun _ => rfl
theorem PX.c11 (x : PX T pb b tv B w l v) : w.cell? ⟨pb, 11, none⟩ = some (.bool v.si) := x.get 11 fun _ => rfl
theorem PX.c13 (x : PX T pb b tv B w l v) : w.cell? ⟨pb, 13, none⟩ = some (.int .u8 (v.ws : Int)) := x.get 13 fun _ => rfl
theorem PX.c14 (x : PX T pb b tv B w l v) : w.cell? ⟨pb, 14, none⟩ = some (.bool v.wn) := x.get 14 fun _ => rfl
theorem PX.c15 (x : PX T pb b tv B w l v) : w.cell? ⟨pb, 15, none⟩ = some (.bool v.mn) := x.get 15 fun _ => rfl
theorem PX.c16 (x : PX T pb b tv B w l v) : w.cell? ⟨pb, 16, none⟩ = some (.bool v.sm) := x.get 16 fun _ => rfl
theorem PX.c18 (x : PX T pb b tv B w l v) : w.cell? ⟨pb, 18, none⟩ = some (.bool v.fl) := x.get 18 fun _ => rfl
theorem PX.c19 (x : PX T pb b tv B w l v) : w.cell? ⟨pb, 19, none⟩ = some (.int .u64 (v.ln : Int)) := x.get 19 fun _ => rfl
theorem PX.c20 (x : PX T pb b tv B w l v) : w.cell? ⟨pb, 20, none⟩ = some (.int .u64 (v.ll : Int)) := x.get 20 fun _ => rfl
theorem PX.c21 (x : PX T pb b tv B w l v) : w.cell? ⟨pb, 21, none⟩ = some (.int .u64 (v.lv : Int)) := x.get 21 fun _ => rfl
theorem PX.c23 (x : PX T pb b tv B w l v) : w.cell? ⟨pb, 23, none⟩ = some (.bool v.nb) := x.get 23 fun _ => rfl
theorem PX.c17 (x : PX T pb b tv B w l v) : ∃ a c, w.cell? ⟨pb, 17, none⟩ = some (.slice a 0 c) := by
  obtain ⟨F, h, x⟩ := x
  exact ⟨_, _, x.cell.at 17⟩
theorem PX.c24 (x : PX T pb b tv B w l v) : ∃ a c, w.cell? ⟨pb, 24, none⟩ = some (.slice a 0 c) := by
  obtain ⟨F, h, x⟩ := x
  exact ⟨_, _, x.cell.at 24⟩
theorem PX.cast (x : PX T pb b tv B w l v) {l' : List UInt8} {v' : VS} (hl : l = l') (hv : v = v') : PX T pb b tv B w l' v' := by
  subst hl hv
  exact x

/-- A later beginning: all that lay apart from the Printer stays apart. -/
structure Base.Sub (T : Sink) (pb b : Nat) (tv : Value) (B B' : Base) : Prop where
  at_ : ∀ k o, B.At pb k o → B'.At pb k o
  back : ∀ w l v, PX T pb b tv B' w l v → PX T pb b tv B w l v

theorem PX.base (hT : TOk T) (x : PX T pb b tv B w l v) (hu : Upd (fun _ => False) w w') : ∃ B' : Base, PX T pb b tv B' w' l v ∧ B.Sub T pb b tv B' ∧ ∀ k o, w.heap.size ≤ k → w'.heap[k]? = some o → B'.At pb k o := by
  obtain ⟨F, h, x⟩ := x
  have hx := x.pw.quiet hT.law hu
  obtain ⟨F1, hp, hF1, hu1⟩ := hx
  have hz := hu.size
  have hfl : ∀ k, F k → k < w.heap.size := x.buf.lt hT.law
  refine ⟨⟨w', fun k => F k ∨ (h.lev v.inc).ownBlock = some k⟩, ⟨F, h, x.cell.keep hu (fun h => h), x.buf.stable hT.law hu (fun _ _ h => h), x.np, ownsRow_stable x.lev hu (fun _ _ h => h), fun k hk => ⟨(x.ld k hk).1, .inl (.inr hk)⟩, fun k hk => .inl (.inl hk), Upd.refl _ _⟩, ⟨?_, ?_⟩, ?_⟩
  · intro k o hA
    obtain ⟨h1, h2, h3⟩ := x.at hA
    refine ⟨hu.heap h1 fun h => h, h2, fun e => ?_⟩
    rcases e with e | e
    · exact h3 e
    · rcases (x.ld k e).2 with h4 | h4
      · exact hA.2.2 h4
      · have := heap_lt hA.1
        omega
  · rintro w2 l2 v2 ⟨F2, h2, y⟩
    have hz2 : B.w0.heap.size ≤ w'.heap.size := Nat.le_trans x.upd.size hz
    have hb : ∀ k, (F k ∨ (h.lev v.inc).ownBlock = some k) ∨ w'.heap.size ≤ k → B.F0 k ∨ B.w0.heap.size ≤ k := fun k hk => by
      rcases hk with (hk | hk) | hk
      · exact x.fr k hk
      · exact (x.ld k hk).2
      · exact .inr (Nat.le_trans hz2 hk)
    refine ⟨F2, h2, y.cell, y.buf, y.np, y.lev, fun k hk => ⟨(y.ld k hk).1, hb k (y.ld k hk).2⟩, fun k hk => hb k (y.fr k hk), ?_⟩
    refine (x.upd.trans (hu.mono fun _ h => h.elim)).trans' y.upd fun k hk => ?_
    rcases hk with h1 | h1
    · exact .inl (.inl h1)
    · exact (hb k (.inl h1)).imp (fun h => .inr h) id
  · intro k o hk ho
    refine ⟨ho, ?_, ?_⟩
    · rintro rfl
      have := heap_lt x.cell
      omega
    · rintro (e | e)
      · have := hfl k e
        omega
      · have := x.lev_lt e
        omega

theorem Base.Sub.refl : B.Sub T pb b tv B := ⟨fun _ _ h => h, fun _ _ _ h => h⟩
theorem Base.Sub.trans {B1 B2 : Base} (h1 : B.Sub T pb b tv B1) (h2 : B1.Sub T pb b tv B2) : B.Sub T pb b tv B2 := ⟨fun k o h => h2.at_ k o (h1.at_ k o h), fun w l v h => h1.back w l v (h2.back w l v h)⟩

/-- A use begins. -/
theorem PW.px {s : PS} (x : PW T pb b tv w F l s) {v : VS} {h : VH} (hs : s = v.ps h) (hi : v.inc = []) (hl : h.lia = none ∧ h.lic = 0) : PX T pb b tv ⟨w, F⟩ w l v := by
  subst hs
  have e : h.lev v.inc = .slice none 0 0 := by simp only [VH.lev, hl.1, hl.2, hi, List.length_nil]
  refine ⟨F, h, x.cell, x.buf, x.np, ?_, ?_, fun k hk => .inl hk, Upd.refl _ _⟩
  · rw [e, hi]
    exact World.ownsRow_nil _ _ _ _
  · rw [e]
    intro k hk
    exact absurd hk (by simp [Value.ownBlock])
/-- A use ends. -/
theorem PX.pwr {w2 : World} {v2 : VS} {l2 : List UInt8} (x : PX T pb b tv ⟨w, F⟩ w2 l2 v2) : ∃ h, PWr T pb b tv w F l2 (v2.ps h) w2 := by
  obtain ⟨F2, h, x⟩ := x
  exact ⟨h, F2, x.pw, x.fr, x.upd⟩
end

/-! What a word is, over blocks that are kept. -/
def litO (p : LitP) : Obj := .cells #[.int .u32 (p.o1 : Int), .int .u32 (p.l1 : Int), .int .u32 (p.o2 : Int), .int .u32 (p.l2 : Int), .string p.v] 188 (0, 0)
def WordX (A : Nat → Obj → Prop) (wb rb : Nat) (ps : List LitP) : Prop :=
  (∃ c, A wb (.cells #[.slice (some ⟨rb, 0, none⟩) ps.length c] 229 (0, 0))) ∧ A rb (.cells (ps.map litIf).toArray 113 (0, 0)) ∧ ∀ p ∈ ps, A p.lb (litO p) ∧ p.l1 < 4294967296 ∧ p.l2 < 4294967296
theorem WordX.mono {A A' : Nat → Obj → Prop} (hA : ∀ k o, A k o → A' k o) {wb rb : Nat} {ps : List LitP} (h : WordX A wb rb ps) : WordX A' wb rb ps := by
  obtain ⟨⟨c, h1⟩, h2, h3⟩ := h
  exact ⟨⟨c, hA _ _ h1⟩, hA _ _ h2, fun p hp => ⟨hA _ _ (h3 p hp).1, (h3 p hp).2⟩⟩

theorem WordX.wordAt {T : Sink} {pb b : Nat} {tv : Value} {B : Base} {w : World} {F : Nat → Prop} {h : VH} {l : List UInt8} {v : VS} (x : PXr T pb b tv B w F h l v) {wb rb : Nat} {ps : List LitP} (hW : WordX (B.At pb) wb rb ps) : WordAt (fun k => k = pb ∨ F k) wb rb w ps := by
  obtain ⟨⟨c, h1⟩, h2, h3⟩ := hW
  have hn : ∀ {k o}, B.At pb k o → ¬ (k = pb ∨ F k) := fun hA e => e.elim (x.at hA).2.1 (x.at hA).2.2
  exact ⟨⟨c, (x.at h1).1⟩, hn h1, (x.at h2).1, hn h2, fun p hp => ⟨(x.at (h3 p hp).1).1, hn (h3 p hp).1, (h3 p hp).2⟩⟩
end Go.Proofs.YtmdkpihlhdjjaaaGreatFmt

namespace Go.Proofs.YtmdkpihlhdjjaaaGreatFmt
open Go.RowKit

section
variable {T : Sink} {pb b : Nat} {tv : Value} {B : Base} {w : World} {l : List UInt8} {v : VS}

theorem v_wb (hT : TOk T) (h : PX T pb b tv B w l v) (c : UInt8) {x : Int} (hx : x = (c.toNat : Int)) (hk : T.okb c = true) (hl : l.length < LIM) :
    Calls Tryz.prog 242 #[.pointer (some ⟨b, 0, none⟩), .int .u8 x] w fun e w' => e = .returned .nilIface ∧ PX T pb b tv B w' (l ++ [c]) v := by
  obtain ⟨F, h, y⟩ := h
  refine (wb_any hT.law c hx y.buf hk hl).mono ?_
  rintro e w' ⟨rfl, F', h1, h2, h3⟩
  exact ⟨rfl, y.pwr (y.pw.wrote h1 h2 h3) rfl⟩

theorem v_ws (hT : TOk T) (h : PX T pb b tv B w l v) (t : ByteArray) (hk : ∀ c ∈ t.data.toList, T.okb c = true) (hl : l.length + t.size ≤ LIM) :
    Calls Tryz.prog 243 #[.pointer (some ⟨b, 0, none⟩), .string t] w fun e w' => e = .returned (.tuple #[.int .i64 (t.size : Int), .nilIface]) ∧ PX T pb b tv B w' (l ++ t.data.toList) v := by
  obtain ⟨F, h, y⟩ := h
  refine (hT.wstr t y.buf hk hl).mono ?_
  rintro e w' ⟨rfl, F', h1, h2, h3⟩
  exact ⟨rfl, y.pwr (y.pw.wrote h1 h2 h3) rfl⟩

theorem v_writeLit (hT : TOk T) (h : PX T pb b tv B w l v) (t : ByteArray) (hk : ∀ c ∈ t.data.toList, T.okb c = true) (h9 : ∀ c ∈ t.data.toList, c ≠ 9) (hl : l.length + t.size ≤ LIM) :
    Calls Tryz.prog 103 #[.pointer (some ⟨pb, 0, none⟩), .string t] w fun e w' => e = .returned (.tuple #[]) ∧ PX T pb b tv B w' (l ++ t.data.toList) v := by
  obtain ⟨F, h, y⟩ := h
  refine (p_writeLit hT.law hT.wstr y.pw t hk h9 hl).mono ?_
  rintro e w' ⟨rfl, hr⟩
  exact ⟨rfl, y.pwr hr rfl⟩

theorem v_advance (hT : TOk T) (h : PX T pb b tv B w l v) (L : Nat) :
    Calls Tryz.prog 69 #[.pointer (some ⟨pb, 0, none⟩), .int .u64 (L : Int)] w fun e w' => e = .returned (.tuple #[]) ∧ PX T pb b tv B w' l { v with ln := max v.ln L } := by
  obtain ⟨F, h, y⟩ := h
  refine (pe_advance y.cell L).mono ?_
  rintro e w' ⟨rfl, hc, hu⟩
  exact ⟨rfl, y.cells hT (v' := { v with ln := max v.ln L }) hc hu ⟨rfl, rfl⟩ rfl⟩

theorem v_fh (h : PX T pb b tv B w l v) :
    Calls Tryz.prog 46 #[.pointer (some ⟨pb, 0, none⟩)] w fun e w' => e = .returned (.tuple #[]) ∧ w = w' := by
  obtain ⟨F, h, y⟩ := h
  refine (pe_fh y.cell).mono ?_
  rintro e w' ⟨rfl, rfl⟩
  exact ⟨rfl, rfl⟩

theorem v_fc (hT : TOk T) (h : PX T pb b tv B w l v) :
    Calls Tryz.prog 47 #[.pointer (some ⟨pb, 0, none⟩)] w fun e w' => e = .returned (.tuple #[]) ∧ PX T pb b tv B w' l v := by
  obtain ⟨F, h, y⟩ := h
  refine (pe_fc y.cell).mono ?_
  rintro e w' ⟨rfl, hc, hu⟩
  exact ⟨rfl, y.cells hT (v' := v) (h' := { h with pca := none, pcc := 0 }) hc hu ⟨rfl, rfl⟩ rfl⟩

theorem v_comments0 (hT : TOk T) (h : PX T pb b tv B w l v) :
    Calls Tryz.prog 67 #[.pointer (some ⟨pb, 0, none⟩), .slice none 0 0] w fun e w' => e = .returned (.tuple #[]) ∧ PX T pb b tv B w' l v := by
  obtain ⟨F, h, y⟩ := h
  refine (pe_comments y.cell).mono ?_
  rintro e w' ⟨rfl, hc, hu⟩
  exact ⟨rfl, y.cells hT hc hu ⟨rfl, rfl⟩ rfl⟩

/-- A word of literals. -/
theorem v_word (hT : TOk T) (h : PX T pb b tv B w l v) {wb rb : Nat} {ps : List LitP} (hW : WordX (B.At pb) wb rb ps) (hne : ps ≠ []) (hln : ∀ p r, ps = p :: r → p.l1 / 16384 ≤ v.ln) (hv : ∀ p ∈ ps, ∀ x ∈ p.v.data.toList, T.okb x = true ∧ x ≠ 9) (hl : l.length + partsSize ps ≤ LIM) :
    Calls Tryz.prog 42 #[.pointer (some ⟨pb, 0, none⟩), .pointer (some ⟨wb, 0, none⟩)] w fun e w' => e = .returned (.tuple #[]) ∧ PX T pb b tv B w' (l ++ partsText ps) { v with ln := partsLn v.ln ps, ws := 1 } := by
  obtain ⟨F, h, y⟩ := h
  refine (p_word hT.law hT.wstr (hT.ok 92 rfl) y.pw (hW.wordAt y) hne hln hv hl).mono ?_
  rintro e w' ⟨rfl, hr⟩
  exact ⟨rfl, y.pwr (v' := { v with ln := partsLn v.ln ps, ws := 1 }) hr rfl⟩

theorem v_word_pos (h : PX T pb b tv B w l v) {wb rb : Nat} {p : LitP} {ps : List LitP} (hW : WordX (B.At pb) wb rb (p :: ps)) (hlen : ps.length ≤ 1099511627776) :
    Calls Tryz.prog 40 #[.pointer (some ⟨wb, 0, none⟩)] w fun e w' => e = .returned (posV p.o1 p.l1) ∧ Upd (fun _ => False) w w' := by
  obtain ⟨F, h, y⟩ := h
  exact word_pos (hW.wordAt y) hlen

set_option maxRecDepth 100000 in
set_option maxHeartbeats 1000000 in
theorem v_space (hT : TOk T) (h : PX T pb b tv B w l v) (hl : l.length + 1 ≤ LIM) :
    Calls Tryz.prog 89 #[.pointer (some ⟨pb, 0, none⟩)] w fun e w' => e = .returned (.tuple #[]) ∧ PX T pb b tv B w' (l ++ [32]) { v with ws := 2 } := by
  have c0 := h.c0
  have hm := bw_meth_wb b
  have ha := bw_ahead_wb b
  have HW := Lib.hid (v_wb hT h 32 (x := 32) rfl (hT.ok 32 rfl) (by omega))
  clear h hl
  go_enter Tryz.func89, Tryz.ntmps89
  go_wp2_with (go_at_call 242; refine HW.out.mono ?_)
  rintro e w1 ⟨rfl, h1⟩
  have d13 := h1.c13
  have f13 := h1.fz 13
  have H1 := Lib.hid h1
  clear h1
  go_wp2
  go_end0
  exact ⟨rfl, H1.out.setc hT { v with ws := 2 } (fun _ => rfl) rfl⟩

/-- What spacePad writes, and the state of the space behind it. -/
def spT (n : Nat) : List UInt8 := if n = 1 then [32] else []
def spW (n : Nat) : Nat := if n = 1 then 2 else n
theorem spT_len (n : Nat) : (spT n).length ≤ 1 := by unfold spT; split <;> simp

set_option maxRecDepth 100000 in
set_option maxHeartbeats 2000000 in
theorem v_spacePad (hT : TOk T) (h : PX T pb b tv B w l v) (o lc : Nat) (hl : l.length + 1 ≤ LIM) :
    Calls Tryz.prog 71 #[.pointer (some ⟨pb, 0, none⟩), posV o lc] w fun e w' => e = .returned (.tuple #[]) ∧ PX T pb b tv B w' (l ++ spT v.ws) { v with ws := spW v.ws } := by
  have h1 := h.quiet hT ((Upd.refl (fun _ => False) w).alloc (.cells #[.int .u32 (o : Int), .int .u32 (lc : Int)] 40))
  have hlt := h.lt
  have c4 := h.c4
  have c13 := h.c13
  have c0 := h.c0
  have hm := bw_meth_wb b
  have ha := bw_ahead_wb b
  have H1 := Lib.hid h1
  by_cases hws : v.ws = 1
  · have e1 : spT v.ws = [32] := by simp [spT, hws]
    have e2 : spW v.ws = 2 := by simp [spW, hws]
    rw [e1, e2]
    rw [hws] at c13
    have HW := Lib.hid (v_wb hT h1 32 (x := 32) rfl (hT.ok 32 rfl) (by omega))
    clear h h1 hl e1 e2 hws
    go_enter Tryz.func71, Tryz.ntmps71
    go_wp2_with (go_at_call 242; refine HW.out.mono ?_)
    rintro e w1 ⟨rfl, h2⟩
    have d13 := h2.c13
    have f13 := h2.fz 13
    have H2 := Lib.hid (h2.setc hT (i := 13) (val := .int .u8 2) { v with ws := 2 } (fun _ => rfl) rfl)
    clear h2
    go_wp2_with fail
    go_loopg [] 0 (fun _ wx => PX T pb b tv B wx (l ++ [32]) { v with ws := 2 })
    case atStart => exact H2.out
    case round =>
      have d3 := hrel.c3
      have H3 := Lib.hid (hrel.quiet hT (Upd.refl (fun _ => False) wr).drew)
      clear hrel
      go_wp2_with fail
      go_region
      go_wp2_with fail
      go_end0
      exact ⟨rfl, H3.out⟩
  · have e1 : spT v.ws = [] := by simp [spT, hws]
    have e2 : spW v.ws = v.ws := by simp [spW, hws]
    rw [e1, e2, List.append_nil]
    have hwsI : ((v.ws : Int) == 1) = false := by rw [beq_eq_false_iff_ne]; omega
    clear h h1 hl e1 e2 hws
    go_enter Tryz.func71, Tryz.ntmps71
    go_wp2_with fail
    go_loopg [] 0 (fun _ wx => PX T pb b tv B wx l v)
    case atStart => exact H1.out
    case round =>
      have d3 := hrel.c3
      have H3 := Lib.hid (hrel.quiet hT (Upd.refl (fun _ => False) wr).drew)
      clear hrel
      go_wp2_with fail
      go_region
      go_wp2_with fail
      go_end0
      exact ⟨rfl, H3.out⟩

set_option maxRecDepth 100000 in
set_option maxHeartbeats 1000000 in
theorem v_spacedString (hT : TOk T) (h : PX T pb b tv B w l v) (t : ByteArray) (o lc : Nat) (hk : ∀ c ∈ t.data.toList, T.okb c = true) (hl : l.length + 1 + t.size ≤ LIM) :
    Calls Tryz.prog 80 #[.pointer (some ⟨pb, 0, none⟩), .string t, posV o lc] w fun e w' => e = .returned (.tuple #[]) ∧ PX T pb b tv B w' (l ++ spT v.ws ++ t.data.toList) { v with ws := 1 } := by
  have hlt := h.lt
  have hm := bw_meth_ws b
  have ha := bw_ahead_ws b
  have HS := Lib.hid (v_spacePad hT (h.quiet hT ((Upd.refl (fun _ => False) w).alloc (.cells #[.int .u32 (o : Int), .int .u32 (lc : Int)] 40))) o lc (by omega))
  have HK := Lib.hid (And.intro hk hl)
  clear h hl hk
  go_enter Tryz.func80, Tryz.ntmps80
  go_wp2_with (go_at_call 71; refine HS.out.mono ?_)
  rintro e w1 ⟨rfl, h1⟩
  have c0 := h1.c0
  have HW := Lib.hid (v_ws hT h1 t HK.out.1 (by have h1 := spT_len v.ws; have h2 := HK.out.2; rw [List.length_append]; omega))
  clear h1
  go_wp2_with (go_at_call 243; refine HW.out.mono ?_)
  rintro e w2 ⟨rfl, h2⟩
  have c13 := h2.c13
  have f13 := h2.fz 13
  have H2 := Lib.hid h2
  clear h2
  go_wp2
  go_end0
  exact ⟨rfl, H2.out.setc hT { v with ws := 1 } (fun _ => rfl) rfl⟩

set_option maxRecDepth 100000 in
set_option maxHeartbeats 1000000 in
theorem v_spacedToken (hT : TOk T) (h : PX T pb b tv B w l v) (t : ByteArray) (o lc : Nat) (hk : ∀ c ∈ t.data.toList, T.okb c = true) (hl : l.length + 1 + t.size ≤ LIM) :
    Calls Tryz.prog 83 #[.pointer (some ⟨pb, 0, none⟩), .string t, posV o lc] w fun e w' => e = .returned (.tuple #[]) ∧ PX T pb b tv B w' (if v.mi then l ++ t.data.toList else l ++ spT v.ws ++ t.data.toList) { v with ws := if v.mi then 0 else 1 } := by
  have hlt := h.lt
  have hm := bw_meth_ws b
  have ha := bw_ahead_ws b
  have h0 := h.quiet hT ((Upd.refl (fun _ => False) w).alloc (.cells #[.int .u32 (o : Int), .int .u32 (lc : Int)] 40))
  have c10 := h.c10
  have c0 := h.c0
  have HK := Lib.hid (And.intro hk hl)
  cases hmi : v.mi
  · rw [hmi] at c10
    have HS := Lib.hid (v_spacePad hT h0 o lc (by omega))
    clear h hl hk h0 c0
    go_enter Tryz.func83, Tryz.ntmps83
    go_wp2_with (go_at_call 71; refine HS.out.mono ?_)
    rintro e w1 ⟨rfl, h1⟩
    have c0 := h1.c0
    have HW := Lib.hid (v_ws hT h1 t HK.out.1 (by have h1 := spT_len v.ws; have h2 := HK.out.2; rw [List.length_append]; omega))
    clear h1
    go_wp2_with (go_at_call 243; refine HW.out.mono ?_)
    rintro e w2 ⟨rfl, h2⟩
    have c13 := h2.c13
    have f13 := h2.fz 13
    have H2 := Lib.hid h2
    clear h2
    go_wp2
    go_end0
    exact ⟨rfl, (H2.out.setc hT { v with ws := 1 } (fun _ => rfl) rfl).cast (by simp) (by simp [hmi])⟩
  · rw [hmi] at c10
    have HW := Lib.hid (v_ws hT h0 t HK.out.1 (by omega))
    clear h hl hk h0
    go_enter Tryz.func83, Tryz.ntmps83
    go_wp2_with (go_at_call 243; refine HW.out.mono ?_)
    rintro e w2 ⟨rfl, h2⟩
    have c13 := h2.c13
    have f13 := h2.fz 13
    have H2 := Lib.hid h2
    clear h2
    go_wp2
    refine bodyPost_ret (v := .tuple #[]) (results_none rfl _ _ _) rfl ?_
    exact ⟨rfl, (H2.out.setc hT { v with ws := 0 } (fun _ => rfl) rfl).cast (by simp) (by simp [hmi])⟩

/-- Does it want a newline ahead of a node on line L? -/
def wantsN (v : VS) (L : Nat) (esc : Bool) : Bool := v.mn || (!v.si && !(esc && v.mi) && (v.wn || decide (v.ln < L)))

set_option maxRecDepth 100000 in
set_option maxHeartbeats 2000000 in
theorem v_wants (h : PX T pb b tv B w l v) (o lc : Nat) (hlc : lc < 4294967296) (esc : Bool) :
    Calls Tryz.prog 92 #[.pointer (some ⟨pb, 0, none⟩), posV o lc, .bool esc] w fun e w' => e = .returned (.bool (wantsN v (lc / 16384) esc)) ∧ Upd (fun _ => False) w w' := by
  have hlt := h.lt
  have c10 := h.c10
  have c11 := h.c11
  have c14 := h.c14
  have c15 := h.c15
  have c19 := h.c19
  obtain ⟨pca, pcc, c17⟩ := h.c17
  have hu0 : Upd (fun _ => False) w (w.alloc (.cells #[.int .u32 (o : Int), .int .u32 (lc : Int)] 40)) := (Upd.refl _ w).alloc _
  have HU := Lib.hid hu0
  have HL := Lib.hid hlc
  have hx := heap_alloc_new w (.cells #[.int .u32 (o : Int), .int .u32 (lc : Int)] 40)
  have x0 : (w.alloc (.cells #[.int .u32 (o : Int), .int .u32 (lc : Int)] 40)).cell? ⟨w.heap.size, 0, none⟩ = some (.int .u32 (o : Int)) := cell_at hx 0
  have x1 : (w.alloc (.cells #[.int .u32 (o : Int), .int .u32 (lc : Int)] 40)).cell? ⟨w.heap.size, 1, none⟩ = some (.int .u32 (lc : Int)) := cell_at hx 1
  have z14 := hu0.cell c14 fun h => h
  have z19 := hu0.cell c19 fun h => h
  clear h hu0 hlc hx
  unfold wantsN
  cases hmn : v.mn
  · rw [hmn] at c15
    cases hsi : v.si
    · rw [hsi] at c11
      cases hem : esc && v.mi
      · cases hwn : v.wn
        · rw [hwn] at c14 z14
          rcases Bool.eq_false_or_eq_true esc with he | he
          · have hmi : v.mi = false := by rw [he] at hem; simpa using hem
            rw [hmi] at c10
            subst he
            clear hem
            go_enter Tryz.func92, Tryz.ntmps92
            go_wp2_with fail
            go_region_held3 (fun w' => w'.cell? ⟨pb, 14, none⟩ = some (.bool false) ∧ w'.cell? ⟨pb, 19, none⟩ = some (.int .u64 (v.ln : Int)) ∧ w'.cell? ⟨w.heap.size, 0, none⟩ = some (.int .u32 (o : Int)) ∧ w'.cell? ⟨w.heap.size, 1, none⟩ = some (.int .u32 (lc : Int))) (first | exact ⟨z14, z19, x0, x1⟩ | exact ⟨k1, k2, k3, k4⟩ | simp [go_sem, *])
              (first | (go_at_call 41; refine (pos_line _ _ HL.out _).mono ?_; rintro e w2 ⟨rfl, hu2⟩
                        have k1 := hu2.cell z14 fun h => h
                        have k2 := hu2.cell z19 fun h => h
                        have k3 := hu2.cell x0 fun h => h
                        have k4 := hu2.cell x1 fun h => h
                        have HU2 := Lib.hid hu2
                        clear hu2))
            go_wp2_with fail
            go_ret
            refine ⟨?_, HU.out.trans ((Upd.refl _ _).drew.trans HU2.out)⟩
            exact congrArg Ending.returned (congrArg Value.bool (by simp; omega))
          · subst he
            clear hem
            go_enter Tryz.func92, Tryz.ntmps92
            go_wp2_with fail
            go_region_held3 (fun w' => w'.cell? ⟨pb, 14, none⟩ = some (.bool false) ∧ w'.cell? ⟨pb, 19, none⟩ = some (.int .u64 (v.ln : Int)) ∧ w'.cell? ⟨w.heap.size, 0, none⟩ = some (.int .u32 (o : Int)) ∧ w'.cell? ⟨w.heap.size, 1, none⟩ = some (.int .u32 (lc : Int))) (first | exact ⟨z14, z19, x0, x1⟩ | exact ⟨k1, k2, k3, k4⟩ | simp [go_sem, *])
              (first | (go_at_call 41; refine (pos_line _ _ HL.out _).mono ?_; rintro e w2 ⟨rfl, hu2⟩
                        have k1 := hu2.cell z14 fun h => h
                        have k2 := hu2.cell z19 fun h => h
                        have k3 := hu2.cell x0 fun h => h
                        have k4 := hu2.cell x1 fun h => h
                        have HU2 := Lib.hid hu2
                        clear hu2))
            go_wp2_with fail
            go_ret
            refine ⟨?_, HU.out.trans ((Upd.refl _ _).drew.trans HU2.out)⟩
            exact congrArg Ending.returned (congrArg Value.bool (by simp; omega))
        · rw [hwn] at c14 z14
          rcases Bool.eq_false_or_eq_true esc with he | he
          · have hmi : v.mi = false := by rw [he] at hem; simpa using hem
            rw [hmi] at c10
            subst he
            clear hem
            go_enter Tryz.func92, Tryz.ntmps92
            go_wp2_with fail
            go_region
            go_wp2_with fail
            go_ret
            exact ⟨by simp, HU.out.drew⟩
          · subst he
            clear hem
            go_enter Tryz.func92, Tryz.ntmps92
            go_wp2_with fail
            go_region
            go_wp2_with fail
            go_ret
            exact ⟨by simp, HU.out.drew⟩
      · obtain ⟨he, hmi⟩ : esc = true ∧ v.mi = true := by simpa using hem
        rw [hmi] at c10
        subst he
        clear hem
        go_enter Tryz.func92, Tryz.ntmps92
        go_wp2_with fail
        go_ret
        exact ⟨by simp, HU.out⟩
    · rw [hsi] at c11
      go_enter Tryz.func92, Tryz.ntmps92
      go_wp2_with fail
      go_ret
      exact ⟨by simp, HU.out⟩
  · rw [hmn] at c15
    go_enter Tryz.func92, Tryz.ntmps92
    go_wp2_with fail
    go_ret
    exact ⟨by simp, HU.out⟩
end
end Go.Proofs.YtmdkpihlhdjjaaaGreatFmt
