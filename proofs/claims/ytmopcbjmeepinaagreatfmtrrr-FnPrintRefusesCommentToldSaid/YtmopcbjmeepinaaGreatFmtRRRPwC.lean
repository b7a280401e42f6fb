/-
  The Printer's advanceLine; wordParts of unquoted literals; word.
-/
import Derived.Test.YtmopcbjmeepinaaGreatFmtRRRPwB
namespace Go.Proofs.YtmopcbjmeepinaaGreatFmtRRR
open Go.RowKit

set_option maxRecDepth 100000 in
theorem pe_advance {pb : Nat} {w : World} {wv tv cv : Value} {s : PS} (h : PCell pb w wv tv cv s) (L : Nat) :
    Calls Tryz.prog 90 #[.pointer (some ⟨pb, 0, none⟩), .int .u64 (L : Int)] w fun e w' => e = .returned (.tuple #[]) ∧ PCell pb w' wv tv cv { s with ln := max s.ln L } ∧ Upd (fun k => k = pb) w w' := by
  have c19 : w.cell? ⟨pb, 19, none⟩ = some (.int .u64 (s.ln : Int)) := h.at 19
  have f19 := h.fr 19
  have hmax : max (s.ln : Int) (L : Int) = ((max s.ln L : Nat) : Int) := by omega
  have HA := Lib.hid h
  clear h
  go_enter Tryz.func90, Tryz.ntmps90
  go_wp2
  go_end0
  exact ⟨rfl, HA.out.set rfl, (Upd.refl (fun k => k = pb) w).setCell (p := ⟨pb, 19, none⟩) (.inl rfl) _⟩

theorem lit_meth_pos (lb : Nat) : ∀ w, (method 548 80 (.pointer (some ⟨lb, 0, none⟩)) "Pos").run Tryz.prog w = .ok (137, .pointer (some ⟨lb, 0, none⟩)) w := fun w => by kernel_rfl
theorem lit_ahead_pos (lb : Nat) : ∀ w, (nilAhead 548 80 (.pointer (some ⟨lb, 0, none⟩)) "Pos").run Tryz.prog w = .ok (some false) w := fun w => by kernel_rfl
theorem lit_meth_end (lb : Nat) : ∀ w, (method 548 80 (.pointer (some ⟨lb, 0, none⟩)) "End").run Tryz.prog w = .ok (265, .pointer (some ⟨lb, 0, none⟩)) w := fun w => by kernel_rfl
theorem lit_ahead_end (lb : Nat) : ∀ w, (nilAhead 548 80 (.pointer (some ⟨lb, 0, none⟩)) "End").run Tryz.prog w = .ok (some false) w := fun w => by kernel_rfl

/-- A literal part: its block, its two positions, its text. -/
structure LitP where
  lb : Nat
  o1 : Nat
  l1 : Nat
  o2 : Nat
  l2 : Nat
  v : ByteArray

def LitP.ok (G : Nat → Prop) (w : World) (p : LitP) : Prop := LitAt p.lb w p.o1 p.l1 p.o2 p.l2 p.v ∧ ¬ G p.lb ∧ p.l1 < 4294967296 ∧ p.l2 < 4294967296
def litIf (p : LitP) : Value := .iface 80 (.pointer (some ⟨p.lb, 0, none⟩))

/-- The parts of a word lie at block rb; none of the blocks is one of G. -/
def PartsAt (G : Nat → Prop) (rb : Nat) (w : World) (ps : List LitP) : Prop :=
  w.heap[rb]? = some (.cells (ps.map litIf).toArray 85 (0, 0)) ∧ ¬ G rb ∧ ∀ p ∈ ps, p.ok G w

theorem PartsAt.next {G G' : Nat → Prop} {rb : Nat} {w w' : World} {ps : List LitP} (h : PartsAt G rb w ps) (hu : Upd G w w') (hG : ∀ k, G' k → G k ∨ w.heap.size ≤ k) : PartsAt G' rb w' ps := by
  obtain ⟨h1, h2, h3⟩ := h
  have hn : ∀ k, k < w.heap.size → ¬ G k → ¬ G' k := fun k hk hn hh => by
    rcases hG k hh with h | h
    · exact hn h
    · omega
  refine ⟨hu.heap h1 h2, hn rb (heap_lt h1) h2, fun p hp => ?_⟩
  obtain ⟨a1, a2, a3⟩ := h3 p hp
  exact ⟨hu.heap a1 a2, hn _ (heap_lt a1) a2, a3⟩

def partsText (ps : List LitP) : List UInt8 := ps.flatMap fun p => litText p.v.data.toList
def partsSize (ps : List LitP) : Nat := (ps.map fun p => p.v.size + 1).sum
def partsLn (ln : Nat) (ps : List LitP) : Nat := ps.foldl (fun a p => max a (p.l2 / 16384)) ln

theorem litText_len (v : ByteArray) : (litText v.data.toList).length ≤ v.size + 1 := by
  have h : v.data.toList.length = v.size := rfl
  unfold litText
  split <;> simp [h]
theorem partsText_len (ps : List LitP) : (partsText ps).length ≤ partsSize ps := by
  induction ps with
  | nil => simp [partsText, partsSize]
  | cons p r ih =>
    have := litText_len p.v
    simp only [partsText, partsSize, List.flatMap_cons, List.length_append, List.map_cons, List.sum_cons] at ih ⊢
    omega
theorem partsSize_split (ps : List LitP) (j : Nat) (hj : j < ps.length) : partsSize (ps.take j) + (ps[j].v.size + 1) ≤ partsSize ps := by
  have h : ps = ps.take j ++ ps[j] :: ps.drop (j + 1) := by rw [← List.drop_eq_getElem_cons hj, List.take_append_drop]
  calc partsSize (ps.take j) + (ps[j].v.size + 1) ≤ partsSize (ps.take j ++ ps[j] :: ps.drop (j + 1)) := by
        simp only [partsSize, List.map_append, List.sum_append, List.map_cons, List.sum_cons]; omega
    _ = partsSize ps := by rw [← h]
theorem partsSize_length (ps : List LitP) : ps.length ≤ partsSize ps := by
  induction ps with
  | nil => simp
  | cons p r ih =>
    simp only [partsSize, List.map_cons, List.sum_cons, List.length_cons] at ih ⊢
    omega
theorem partsText_take (ps : List LitP) (j : Nat) (hj : j < ps.length) : partsText (ps.take (j + 1)) = partsText (ps.take j) ++ litText ps[j].v.data.toList := by
  rw [List.take_succ_eq_append_getElem hj]
  simp only [partsText, List.flatMap_append, List.flatMap_cons, List.flatMap_nil, List.append_nil]
theorem partsLn_take (ln : Nat) (ps : List LitP) (j : Nat) (hj : j < ps.length) : partsLn ln (ps.take (j + 1)) = max (partsLn ln (ps.take j)) (ps[j].l2 / 16384) := by
  rw [List.take_succ_eq_append_getElem hj]
  simp only [partsLn, List.foldl_append, List.foldl_cons, List.foldl_nil]

/-- What the loop of wordParts keeps. -/
def WpInv (T : Sink) (pb b : Nat) (tv : Value) (w : World) (F : Nat → Prop) (l : List UInt8) (s : PS) (rb : Nat) (ps : List LitP) (j : Nat) (wr : World) : Prop :=
  ∃ Fr, PW T pb b tv wr Fr (l ++ partsText (ps.take j)) { s with ln := partsLn s.ln (ps.take j) } ∧ (∀ k, Fr k → F k ∨ w.heap.size ≤ k) ∧ Upd (fun k => k = pb ∨ F k) w wr ∧ PartsAt (fun k => k = pb ∨ Fr k) rb wr ps

set_option maxRecDepth 100000 in
set_option maxHeartbeats 4000000 in
/-- The loop's round where a part is left: the contract of each call that it makes. -/
theorem wp_round {T : Sink} (hs : T.Law Tryz.prog 548) (hsw : T.WStr Tryz.prog) (h92 : T.okb 92 = true) {pb b : Nat} {tv : Value} {w : World} {F : Nat → Prop} {l : List UInt8} {s : PS} {rb : Nat} {ps : List LitP} {j : Nat} {wr : World}
    (h : WpInv T pb b tv w F l s rb ps j wr) (hj : j < ps.length) (hv : ∀ p ∈ ps, ∀ x ∈ p.v.data.toList, T.okb x = true ∧ x ≠ 9) (hl : l.length + partsSize ps ≤ LIM) (nx : Value) (W : World) (hW : Upd (fun _ => False) wr W) :
    Calls Tryz.prog 65 #[.pointer (some ⟨pb, 0, none⟩), .iface 80 (.pointer (some ⟨(ps[j]'hj).lb, 0, none⟩)), nx] W fun e w' => e = .returned (.tuple #[]) ∧
      LitAt (ps[j]'hj).lb w' (ps[j]'hj).o1 (ps[j]'hj).l1 (ps[j]'hj).o2 (ps[j]'hj).l2 (ps[j]'hj).v ∧
      ∀ w2, Upd (fun _ => False) w' w2 → Calls Tryz.prog 90 #[.pointer (some ⟨pb, 0, none⟩), .int .u64 (((ps[j]'hj).l2 / 16384 : Nat) : Int)] w2 fun e w3 => e = .returned (.tuple #[]) ∧ WpInv T pb b tv w F l s rb ps (j + 1) w3 := by
  obtain ⟨Fr, hP, hFr, hU, hA⟩ := h
  have hm : ps[j] ∈ ps := List.getElem_mem hj
  obtain ⟨hL, hnb, hl1, hl2⟩ := hA.2.2 _ hm
  have hP0 := hP.stable hs hW (fun h => h) fun _ _ h => h
  have hlen : (l ++ partsText (ps.take j)).length + (ps[j].v.size + 1) ≤ LIM := by
    have h1 := partsText_len (ps.take j)
    have h2 := partsSize_split ps j hj
    rw [List.length_append]
    omega
  refine (p_wordPart_lit hs hsw h92 hP0 (hW.heap hL fun h => h) (fun e => hnb (.inl e)) (fun e => hnb (.inr e)) nx (fun x hx => (hv _ hm x hx).1) (fun x hx => (hv _ hm x hx).2) (by omega)).mono ?_
  rintro e w' ⟨rfl, F1, hP1, hF1, hU1⟩
  have hL' : LitAt ps[j].lb w' ps[j].o1 ps[j].l1 ps[j].o2 ps[j].l2 ps[j].v := hU1.heap (hW.heap hL fun h => h) hnb
  refine ⟨rfl, hL', fun w2 hW2 => ?_⟩
  have hP2 := hP1.stable hs hW2 (fun h => h) fun _ _ h => h
  refine (pe_advance hP2.cell (ps[j].l2 / 16384)).mono ?_
  rintro e w3 ⟨rfl, hc3, hu3⟩
  have hz := hW.size
  have hF1w : ∀ k, F1 k → Fr k ∨ wr.heap.size ≤ k := fun k hk => (hF1 k hk).imp id fun h => Nat.le_trans hz h
  have hU13 : Upd (fun k => k = pb ∨ Fr k) wr w3 := (((hW.mono fun _ h => h.elim).trans hU1).trans (hW2.mono fun _ h => h.elim)).trans (hu3.mono fun _ h => .inl h)
  refine ⟨rfl, F1, ⟨?_, ?_, hP2.np⟩, fun k hk => ?_, hU.trans' hU13 fun k hk => ?_, hA.next hU13 fun k hk => ?_⟩
  · rw [partsLn_take _ _ _ hj]
    exact hc3
  · rw [partsText_take _ _ hj, ← List.append_assoc]
    exact hP2.buf.stable hs hu3 fun _ hk e => hP2.np (e ▸ hk)
  · rcases hF1w k hk with h | h
    · exact hFr k h
    · exact .inr (Nat.le_trans hU.size h)
  · rcases hk with h | h
    · exact .inl (.inl h)
    · exact (hFr k h).imp (fun h => .inr h) id
  · rcases hk with h | h
    · exact .inl (.inl h)
    · exact (hF1w k h).imp (fun h => .inr h) id

set_option maxRecDepth 100000 in
set_option maxHeartbeats 4000000 in
/-- wordParts, unquoted. -/
theorem p_wordParts {T : Sink} (hs : T.Law Tryz.prog 548) (hsw : T.WStr Tryz.prog) (h92 : T.okb 92 = true) {pb b : Nat} {tv : Value} {w : World} {F : Nat → Prop} {l : List UInt8} {s : PS} (h : PW T pb b tv w F l s) {rb c : Nat} {ps : List LitP}
    (hP : PartsAt (fun k => k = pb ∨ F k) rb w ps) (hne : ps ≠ []) (hln : ∀ p r, ps = p :: r → p.l1 / 16384 ≤ s.ln) (hv : ∀ p ∈ ps, ∀ x ∈ p.v.data.toList, T.okb x = true ∧ x ≠ 9) (hl : l.length + partsSize ps ≤ LIM) :
    Calls Tryz.prog 124 #[.pointer (some ⟨pb, 0, none⟩), .slice (some ⟨rb, 0, none⟩) ps.length c, .bool false] w fun e w' => e = .returned (.tuple #[]) ∧ PWr T pb b tv w F (l ++ partsText ps) { s with ln := partsLn s.ln ps } w' := by
  obtain ⟨n, hn⟩ : ∃ n, n = ps.length := ⟨_, rfl⟩
  have hlp := partsSize_length ps
  have hnI : (n : Int) ≤ 1099511627776 := by unfold LIM at hl; omega
  have hpos : 0 < n := by rw [hn]; exact List.length_pos_iff.2 hne
  have hposI : (0 : Int) < (n : Int) := by omega
  rw [← hn]
  have c11 : w.cell? ⟨pb, 11, none⟩ = some (.bool s.si) := h.cell.at 11
  have c19 : w.cell? ⟨pb, 19, none⟩ = some (.int .u64 (s.ln : Int)) := h.cell.at 19
  obtain ⟨p0, hp0⟩ : ∃ p0, ps[0]? = some p0 := ⟨ps[0]'(by omega), List.getElem?_eq_getElem _⟩
  have cr0 : w.cell? ⟨rb, 0, none⟩ = some (.iface 80 (.pointer (some ⟨p0.lb, 0, none⟩))) := by
    rw [cell_at hP.1 0]; simp [hp0, litIf]
  have hp0m : p0 ∈ ps := List.mem_of_getElem? hp0
  have hL0 := (hP.2.2 p0 hp0m).1
  have hl10 := (hP.2.2 p0 hp0m).2.2.1
  have hle : ¬ (s.ln : Int) < ((p0.l1 / 16384 : Nat) : Int) := by
    obtain ⟨q, r, hqr⟩ := List.exists_cons_of_ne_nil hne
    have := hln q r hqr
    rw [hqr] at hp0
    obtain rfl : q = p0 := by simpa using hp0
    omega
  have hm1 := lit_meth_pos p0.lb
  have ha1 := lit_ahead_pos p0.lb
  have HStart := Lib.hid (fun W (hW : Upd (fun _ => False) w W) => show WpInv T pb b tv w F l s rb ps 0 W from
    ⟨F, by simpa [partsText, partsLn] using h.stable hs hW (fun h => h) fun _ _ h => h, fun k hk => .inl hk, hW.mono fun _ h => h.elim, hP.next (hW.mono fun _ h => h.elim) fun k hk => .inl hk⟩)
  have HV := Lib.hid (And.intro hv hl)
  have HA := Lib.hid h
  have HL0 := Lib.hid hL0
  have HN := Lib.hid hn
  clear h hP hne hln hv hl hlp hp0 hp0m hL0 hn
  rcases Bool.eq_false_or_eq_true s.si with hsi | hsi
  rotate_left
  · rw [hsi] at c11
    go_enter Tryz.func124, Tryz.ntmps124
    go_wp2_with fail
    go_region_held3 (fun w' => w'.cell? ⟨pb, 11, none⟩ = some (.bool false) ∧ w'.cell? ⟨pb, 19, none⟩ = some (.int .u64 (s.ln : Int)) ∧ w'.cell? ⟨rb, 0, none⟩ = some (.iface 80 (.pointer (some ⟨p0.lb, 0, none⟩)))) (first | exact ⟨c11, c19, cr0⟩ | exact ⟨k1, k2, k3⟩ | exact ⟨m1, m2, m3⟩ | simp [go_sem, *])
      (first
        | (go_at_call 137; refine (lit_pos (w := w.drew) HL0.out).mono ?_; rintro e w1 ⟨rfl, hu1⟩
           have k1 := hu1.cell (show w.drew.cell? ⟨pb, 11, none⟩ = _ from c11) fun h => h
           have k2 := hu1.cell (show w.drew.cell? ⟨pb, 19, none⟩ = _ from c19) fun h => h
           have k3 := hu1.cell (show w.drew.cell? ⟨rb, 0, none⟩ = _ from cr0) fun h => h
           have HU1 := Lib.hid hu1
           clear hu1)
        | (go_at_call 63; refine (pos_line _ _ hl10 _).mono ?_; rintro e w2 ⟨rfl, hu2⟩
           have m1 := hu2.cell k1 fun h => h
           have m2 := hu2.cell k2 fun h => h
           have m3 := hu2.cell k3 fun h => h
           have HU2 := Lib.hid (HU1.out.trans hu2)
           clear hu2))
    have HW2 := Lib.hid (((Upd.refl (fun _ => False) w).drew).trans HU2.out)
    clear HU1 HU2
    go_wp2_with fail
    go_loopg [34] n (fun k v34 wr => ∃ j : Nat, v34 = .int .i64 (j : Int) ∧ j + k = n ∧ WpInv T pb b tv w F l s rb ps j wr)
    case atStart => exact ⟨0, rfl, by omega, HStart.out _ HW2.out⟩
    case round =>
      obtain ⟨j, rfl, hjk, hI⟩ := hrel
      have HJ := Lib.hid hjk
      clear hjk
      by_cases hlt : j < n
      · have hltI : (j : Int) < (n : Int) := by omega
        have hj : j < ps.length := by rw [← HN.out]; exact hlt
        have hrow : ∀ i (hi : i < ps.length), wr.cell? ⟨rb, i, none⟩ = some (.iface 80 (.pointer (some ⟨(ps[i]'hi).lb, 0, none⟩))) := fun i hi => by
          obtain ⟨Fr, hP, hFr, hU, hA⟩ := hI
          rw [cell_at hA.1 i]
          simp [litIf, hi]
        have crj := hrow j hj
        have hm2 := lit_meth_end (ps[j]'hj).lb
        have ha2 := lit_ahead_end (ps[j]'hj).lb
        have hl2j : (ps[j]'hj).l2 < 4294967296 := by
          obtain ⟨Fr, hP, hFr, hU, hA⟩ := hI
          exact (hA.2.2 _ (List.getElem_mem hj)).2.2.2
        have HR := Lib.hid (fun nx W hW => wp_round hs hsw h92 hI hj HV.out.1 HV.out.2 nx W hW)
        obtain ⟨q, hq⟩ : ∃ q, q = ps[j]'hj := ⟨_, rfl⟩
        rw [← hq] at crj hm2 ha2 hl2j HR
        have HRow := Lib.hid hrow
        have HL2 := Lib.hid hl2j
        clear hI hrow hq hl2j
        by_cases hn1 : j + 1 < n
        · have hn1I : (j : Int) + 1 < (n : Int) := by omega
          have crn := HRow.out (j + 1) (by rw [← HN.out]; exact hn1)
          go_wp2_with fail
          go_loopg [] 0 (fun _ wx => wx = wr)
          case atStart => rfl
          case round =>
            obtain rfl := hrel
            go_wp2_with fail
            go_region
            go_wp2_with (first
              | (go_at_call 65; refine (HR.out _ _ ((Upd.refl _ _).drew)).mono ?_; rintro e w4 ⟨rfl, hL4, hadv⟩; have HL4 := Lib.hid hL4; have HAdv := Lib.hid hadv; clear hL4 hadv)
              | (go_at_call 265; refine (lit_end HL4.out).mono ?_; rintro e w5 ⟨rfl, hu5⟩; have HU5 := Lib.hid hu5; clear hu5)
              | (go_at_call 63; refine (pos_line _ _ HL2.out _).mono ?_; rintro e w6 ⟨rfl, hu6⟩; have HU6 := Lib.hid (HU5.out.trans hu6); clear hu6)
              | (go_at_call 90; refine (HAdv.out _ HU6.out).mono ?_; rintro e w7 ⟨rfl, hI7⟩; have HI7 := Lib.hid hI7; clear hI7))
            go_roundg (n - (j + 1))
            case measure => have := HJ.out; omega
            case rel => exact ⟨j + 1, by go_num, by omega, HI7.out⟩
        · have hn1I : ¬ (j : Int) + 1 < (n : Int) := by omega
          go_wp2_with fail
          go_loopg [] 0 (fun _ wx => wx = wr)
          case atStart => rfl
          case round =>
            obtain rfl := hrel
            go_wp2_with fail
            go_region
            go_wp2_with (first
              | (go_at_call 65; refine (HR.out _ _ ((Upd.refl _ _).drew)).mono ?_; rintro e w4 ⟨rfl, hL4, hadv⟩; have HL4 := Lib.hid hL4; have HAdv := Lib.hid hadv; clear hL4 hadv)
              | (go_at_call 265; refine (lit_end HL4.out).mono ?_; rintro e w5 ⟨rfl, hu5⟩; have HU5 := Lib.hid hu5; clear hu5)
              | (go_at_call 63; refine (pos_line _ _ HL2.out _).mono ?_; rintro e w6 ⟨rfl, hu6⟩; have HU6 := Lib.hid (HU5.out.trans hu6); clear hu6)
              | (go_at_call 90; refine (HAdv.out _ HU6.out).mono ?_; rintro e w7 ⟨rfl, hI7⟩; have HI7 := Lib.hid hI7; clear hI7))
            go_roundg (n - (j + 1))
            case measure => have := HJ.out; omega
            case rel => exact ⟨j + 1, by go_num, by omega, HI7.out⟩
      · obtain rfl : j = n := by have := HJ.out; omega
        have HI := Lib.hid hI
        clear hI
        go_wp2_with fail
        go_end0
        obtain ⟨Fr, hP, hFr, hU, hA⟩ := HI.out
        rw [HN.out, List.take_length] at hP
        exact ⟨rfl, Fr, hP, hFr, hU⟩
  · rw [hsi] at c11
    go_enter Tryz.func124, Tryz.ntmps124
    go_wp2_with fail
    go_region
    have HW2 := Lib.hid ((Upd.refl (fun _ => False) w).drew)
    go_wp2_with fail
    go_loopg [34] n (fun k v34 wr => ∃ j : Nat, v34 = .int .i64 (j : Int) ∧ j + k = n ∧ WpInv T pb b tv w F l s rb ps j wr)
    case atStart => exact ⟨0, rfl, by omega, HStart.out _ HW2.out⟩
    case round =>
      obtain ⟨j, rfl, hjk, hI⟩ := hrel
      have HJ := Lib.hid hjk
      clear hjk
      by_cases hlt : j < n
      · have hltI : (j : Int) < (n : Int) := by omega
        have hj : j < ps.length := by rw [← HN.out]; exact hlt
        have hrow : ∀ i (hi : i < ps.length), wr.cell? ⟨rb, i, none⟩ = some (.iface 80 (.pointer (some ⟨(ps[i]'hi).lb, 0, none⟩))) := fun i hi => by
          obtain ⟨Fr, hP, hFr, hU, hA⟩ := hI
          rw [cell_at hA.1 i]
          simp [litIf, hi]
        have crj := hrow j hj
        have hm2 := lit_meth_end (ps[j]'hj).lb
        have ha2 := lit_ahead_end (ps[j]'hj).lb
        have hl2j : (ps[j]'hj).l2 < 4294967296 := by
          obtain ⟨Fr, hP, hFr, hU, hA⟩ := hI
          exact (hA.2.2 _ (List.getElem_mem hj)).2.2.2
        have HR := Lib.hid (fun nx W hW => wp_round hs hsw h92 hI hj HV.out.1 HV.out.2 nx W hW)
        obtain ⟨q, hq⟩ : ∃ q, q = ps[j]'hj := ⟨_, rfl⟩
        rw [← hq] at crj hm2 ha2 hl2j HR
        have HRow := Lib.hid hrow
        have HL2 := Lib.hid hl2j
        clear hI hrow hq hl2j
        by_cases hn1 : j + 1 < n
        · have hn1I : (j : Int) + 1 < (n : Int) := by omega
          have crn := HRow.out (j + 1) (by rw [← HN.out]; exact hn1)
          go_wp2_with fail
          go_loopg [] 0 (fun _ wx => wx = wr)
          case atStart => rfl
          case round =>
            obtain rfl := hrel
            go_wp2_with fail
            go_region
            go_wp2_with (first
              | (go_at_call 65; refine (HR.out _ _ ((Upd.refl _ _).drew)).mono ?_; rintro e w4 ⟨rfl, hL4, hadv⟩; have HL4 := Lib.hid hL4; have HAdv := Lib.hid hadv; clear hL4 hadv)
              | (go_at_call 265; refine (lit_end HL4.out).mono ?_; rintro e w5 ⟨rfl, hu5⟩; have HU5 := Lib.hid hu5; clear hu5)
              | (go_at_call 63; refine (pos_line _ _ HL2.out _).mono ?_; rintro e w6 ⟨rfl, hu6⟩; have HU6 := Lib.hid (HU5.out.trans hu6); clear hu6)
              | (go_at_call 90; refine (HAdv.out _ HU6.out).mono ?_; rintro e w7 ⟨rfl, hI7⟩; have HI7 := Lib.hid hI7; clear hI7))
            go_roundg (n - (j + 1))
            case measure => have := HJ.out; omega
            case rel => exact ⟨j + 1, by go_num, by omega, HI7.out⟩
        · have hn1I : ¬ (j : Int) + 1 < (n : Int) := by omega
          go_wp2_with fail
          go_loopg [] 0 (fun _ wx => wx = wr)
          case atStart => rfl
          case round =>
            obtain rfl := hrel
            go_wp2_with fail
            go_region
            go_wp2_with (first
              | (go_at_call 65; refine (HR.out _ _ ((Upd.refl _ _).drew)).mono ?_; rintro e w4 ⟨rfl, hL4, hadv⟩; have HL4 := Lib.hid hL4; have HAdv := Lib.hid hadv; clear hL4 hadv)
              | (go_at_call 265; refine (lit_end HL4.out).mono ?_; rintro e w5 ⟨rfl, hu5⟩; have HU5 := Lib.hid hu5; clear hu5)
              | (go_at_call 63; refine (pos_line _ _ HL2.out _).mono ?_; rintro e w6 ⟨rfl, hu6⟩; have HU6 := Lib.hid (HU5.out.trans hu6); clear hu6)
              | (go_at_call 90; refine (HAdv.out _ HU6.out).mono ?_; rintro e w7 ⟨rfl, hI7⟩; have HI7 := Lib.hid hI7; clear hI7))
            go_roundg (n - (j + 1))
            case measure => have := HJ.out; omega
            case rel => exact ⟨j + 1, by go_num, by omega, HI7.out⟩
      · obtain rfl : j = n := by have := HJ.out; omega
        have HI := Lib.hid hI
        clear hI
        go_wp2_with fail
        go_end0
        obtain ⟨Fr, hP, hFr, hU, hA⟩ := HI.out
        rw [HN.out, List.take_length] at hP
        exact ⟨rfl, Fr, hP, hFr, hU⟩
end Go.Proofs.YtmopcbjmeepinaaGreatFmtRRR
