/-
  flushComments' walk, the writer behind the column counter.
-/
import Derived.Test.YtmdkpihlhdjjaaaGreatFmtKFxAX
import Derived.Test.YtmdkpihlhdjjaaaGreatFmtKFxCX
import Derived.Deep.CutBlock
import Derived.Deep.DeepCutAuto
namespace Go.Proofs.YtmdkpihlhdjjaaaGreatFmt
open Go.RowKit

section
variable {T : Sink} {pb b : Nat} {K : Nat} {pc : Value} {B : Base} {w : World} {l : List UInt8} {v : VS} {cl : Bool}

theorem c_writeLit (hT : TOk T) (hok : (∀ c, T.okb c = true) ∧ K ≤ LIM) (h : FX T pb b true K pc B w l v cl) (t : ByteArray) (hl : l.length + t.size + 2 ≤ LIM) :
    Calls Tryz.prog 103 #[.pointer (some ⟨pb, 0, none⟩), .string t] w fun e w' => e = .returned (.tuple #[]) ∧ FX T pb b true K pc B w' (l ++ litB t.data.toList) v (clOf true cl (litB t.data.toList)) := by
  by_cases h9 : 9 ∈ t.data.toList
  · have e : litB t.data.toList = [255] ++ t.data.toList ++ [255] := by simp [litB, h9]
    rw [e]
    exact c_writeLit1 hT hok h t h9 hl
  · have e : litB t.data.toList = t.data.toList := by simp [litB, h9]
    rw [e]
    exact c_writeLit0 hT hok h t (fun c hc e => h9 (e ▸ hc)) (by omega)

set_option maxRecDepth 100000 in
set_option maxHeartbeats 32000000 in
theorem c_flush (hT : TOk T) (hok : (∀ c, T.okb c = true) ∧ K ≤ LIM) (hTr : ∀ K2 pc2 W l2 v2 cl2, FX T pb b true K2 pc2 B W l2 v2 cl2 → ∀ t : ByteArray, t.size ≤ 1048576 → Calls Tryz.prog 121 #[.string t, .func (.func 122) #[] #[]] W fun e w' => e = .returned (.string (trimB t)) ∧ Upd (fun _ => False) W w')
    {g cap : Nat} {cs : List (Nat × ByteArray)} (h : FX T pb b true K (.slice (some ⟨g, 0, none⟩) cs.length cap) B w l v cl) (hg : B.At pb g (.cells (comC cs).toArray 42 (0, 0))) (h0 : 0 < cs.length) (hcs : ∀ c ∈ cs, c.1 ≤ 262143 ∧ c.2.size ≤ 1048576) (hn4 : cs.length ≤ 4096)
    (hkl : v.k * v.lv ≤ 65536) (hlv : v.lv ≤ 65536) (hln : v.ln ≤ 2147483648) (hl : l.length ≤ 1000000000) :
    Calls Tryz.prog 47 #[.pointer (some ⟨pb, 0, none⟩)] w fun e w' => e = .returned (.tuple #[]) ∧ FX T pb b true K (.slice none 0 0) B w' (l ++ (fcAll true cl v 0 cs).1) (fcAll true cl v 0 cs).2.1 (fcAll true cl v 0 cs).2.2 := by
  obtain ⟨n, hn⟩ : ∃ n, n = cs.length := ⟨_, rfl⟩
  rw [← hn] at h h0 hn4
  have hnI : (n : Int) ≤ 4096 := by omega
  have h0I : (0 : Int) < (n : Int) := by omega
  have c17 := h.c17
  have HFh := Lib.hid (c_fh h)
  have HX := Lib.hid h
  have HC := Lib.hid (And.intro hg (And.intro hcs (And.intro hn (And.intro hkl (And.intro hlv (And.intro hln hl))))))
  have HTr := Lib.hid hTr
  have hm := cc_meth_wb pb
  have ha := cc_ahead_wb pb
  clear h hg hcs hn hkl hlv hln hl hTr h0 hn4
  go_enter Tryz.func47, Tryz.ntmps47
  go_wp2_with (go_at_call 46; refine HFh.out.mono ?_; rintro e w1 ⟨rfl, rfl⟩)
  go_loopg [18] n (fun k v18 wr => ∃ (j : Nat) (t1 : List UInt8) (v1 : VS) (cl1 : Bool), v18 = .int .i64 (j : Int) ∧ j + k = n ∧ fcAll true cl v 0 (cs.take j) = (t1, v1, cl1) ∧ (0 < j → v1.mn = true) ∧ v1.k = v.k ∧ v1.lv = v.lv ∧ v1.ln ≤ 2147483648 ∧ t1.length ≤ 1200000 * j ∧ FX T pb b true K (.slice (some ⟨g, 0, none⟩) n cap) B wr (l ++ t1) v1 cl1)
  case atStart => exact ⟨0, [], v, cl, rfl, by omega, rfl, fun h => by omega, rfl, rfl, HC.out.2.2.2.2.2.1, by simp, HX.out.cast (by simp) rfl rfl⟩
  case round =>
    obtain ⟨j, t1, v1, cl1, rfl, hjk, hall, hmn, hk1, hlv1, hln1, htl, hX⟩ := hrel
    have HJ := Lib.hid (And.intro hjk (And.intro hall (And.intro hmn (And.intro hk1 (And.intro hlv1 (And.intro hln1 htl))))))
    by_cases hlt : j < n
    · have hltI : (j : Int) < (n : Int) := by omega
      have hj : j < cs.length := by have := HC.out.2.2.1; omega
      obtain ⟨c, hcj⟩ : ∃ c, cs[j]'hj = c := ⟨_, rfl⟩
      obtain ⟨L, t⟩ := c
      have hrow := hX.at HC.out.1
      have hat := comC_at cs j hj
      rw [hcj] at hat
      have r0 : wr.cell? ⟨g, j * 3, none⟩ = some (.int .u32 0) := (cell_at hrow _).trans (by simpa using hat.1)
      have r1 : wr.cell? ⟨g, j * 3 + 1, none⟩ = some (.int .u32 (lcP L : Int)) := (cell_at hrow _).trans (by simpa using hat.2.1)
      have r2 : wr.cell? ⟨g, j * 3 + 2, none⟩ = some (.string t) := (cell_at hrow _).trans (by simpa using hat.2.2)
      have hXs := hX.setc hT (i := 18) (val := .bool false) { v1 with fl := false } (fun _ _ => rfl) rfl
      have hbase := hXs.base hT ((Upd.refl (fun _ => False) (wr.setCell ⟨pb, 18, none⟩ (.bool false))).alloc (.cells #[.int .u32 0, .int .u32 (lcP L : Int), .string t] 42))
      obtain ⟨B', hX2, hback, _, hAt⟩ := hbase
      have hszs : (wr.setCell ⟨pb, 18, none⟩ (.bool false)).heap.size = wr.heap.size := by simp
      have hnew := heap_alloc_new (wr.setCell ⟨pb, 18, none⟩ (.bool false)) (.cells #[.int .u32 0, .int .u32 (lcP L : Int), .string t] 42)
      rw [hszs] at hnew hAt
      have hbox := hAt wr.heap.size _ (Nat.le_refl _) hnew
      have e18 := hX.c18
      have g18 := hX.fz 18
      have hltp := hX.lt
      clear hXs hszs hnew
      have HX2 := Lib.hid hX2
      have HBox := Lib.hid (And.intro hback hbox)
      have HLine : RowKit.Hid (∀ W, Calls Tryz.prog 41 #[.agg #[.int .u32 0, .int .u32 (lcP L : Int)]] W fun e w' => e = .returned (.int .u64 (L : Int)) ∧ Upd (fun _ => False) W w') := Lib.hid (fun W => by
        have h1 := pos_line 0 (lcP L) (lcP_lt L) W
        have e4 : lcP L / 16384 = L := by rw [lcP_line]; unfold clampL; rw [if_neg (by have := (HC.out.2.1 _ (hcj ▸ List.getElem_mem hj)).1; omega)]
        rw [e4] at h1
        exact h1)
      have HLt := Lib.hid (HC.out.2.1 _ (hcj ▸ List.getElem_mem hj))
      have HCj := Lib.hid hcj
      have HMn := Lib.hid hmn
      have hmI : (mIndent v1).length ≤ 65540 := mIndent_le v1 ⟨by rw [hk1, hlv1]; exact HC.out.2.2.2.1, by rw [hlv1]; exact HC.out.2.2.2.2.1, hln1⟩
      have HB0 : RowKit.Hid ((l ++ t1).length ≤ 6000000000 ∧ v1.k * v1.lv ≤ 65536 ∧ v1.lv ≤ 65536 ∧ (mIndent v1).length ≤ 65540) := Lib.hid ⟨by
        have h1 := HC.out.2.2.2.2.2.2
        rw [List.length_append]; omega, by rw [hk1, hlv1]; exact HC.out.2.2.2.1, by rw [hlv1]; exact HC.out.2.2.2.2.1, hmI⟩
      obtain ⟨ld, hld⟩ : ∃ ld, ld = fcLead true cl1 v1 j L := ⟨_, rfl⟩
      obtain ⟨v2, hv2⟩ : ∃ v2 : VS, v2 = { fcV true cl1 v1 j L with fl := false } := ⟨_, rfl⟩
      obtain ⟨cl2, hcl2⟩ : ∃ cl2, cl2 = clOf true cl1 ld := ⟨_, rfl⟩
      have HD := Lib.hid (And.intro hld (And.intro hv2 hcl2))
      have hLI : (L : Int) ≤ 262143 := by have := HLt.out.1; omega
      have hlnI : (v1.ln : Int) ≤ 2147483648 := by omega
      clear hX2 hback hAt hbox hcj hmn hall hk1 hlv1 hln1 htl hX hjk hrow hat hld hv2 hcl2 hmI
      go_upto_block 2 with (go_at_call 41; refine (HLine.out _).mono ?_; rintro e w5 ⟨rfl, hu5⟩; have HX5 := Lib.hid (HX2.out.quiet hT hu5); clear hu5)
      go_cut [] (fun wx => FX T pb b true K (.slice (some ⟨g, 0, none⟩) n cap) B' wx (l ++ t1 ++ ld) v2 cl2)
      case first =>
        have c0 := HX5.out.c0c
        have c9 := HX5.out.c9
        have c13 : w5.cell? ⟨pb, 13, none⟩ = some (.int .u8 (v1.ws : Int)) := HX5.out.c13
        have c15 : w5.cell? ⟨pb, 15, none⟩ = some (.bool v1.mn) := HX5.out.c15
        have c19 : w5.cell? ⟨pb, 19, none⟩ = some (.int .u64 (v1.ln : Int)) := HX5.out.c19
        have hcase : v1.mn = true ∨ (v1.mn = false ∧ j = 0 ∧ v1.ln < L ∧ 0 < v1.ln) ∨ (v1.mn = false ∧ j = 0 ∧ ((v1.ln < L ∧ v1.ln = 0) ∨ L ≤ v1.ln)) := by
          cases hm : v1.mn
          · have h0 : j = 0 := by
              rcases Nat.eq_zero_or_pos j with h | h
              · exact h
              · have := HMn.out h; rw [hm] at this; cases this
            by_cases h1 : v1.ln < L
            · rcases Nat.eq_zero_or_pos v1.ln with h2 | h2
              · exact .inr (.inr ⟨rfl, h0, .inl ⟨h1, h2⟩⟩)
              · exact .inr (.inl ⟨rfl, h0, h1, h2⟩)
            · exact .inr (.inr ⟨rfl, h0, .inr (by omega)⟩)
          · exact .inl rfl
        have hfin : ∀ (bk : Bool), fcBrk v1 j L = true → ((bk = true ∧ v1.ln + 1 < L) ∨ (bk = false ∧ ¬ v1.ln + 1 < L)) → ld = [10] ++ (if bk then [10] else []) ++ mIndent v1 ∧ v2 = { sIndent { v1 with fl := false } with ws := 2 } := fun bk h1 h2 => by
          obtain ⟨e1, e2, _⟩ := HD.out
          rw [e1, e2]
          unfold fcLead fcV
          rw [if_pos h1, if_pos h1]
          refine ⟨?_, ?_⟩
          · rcases h2 with ⟨rfl, h2⟩ | ⟨rfl, h2⟩ <;> simp [h2]
          · cases hq : v1.mi <;> simp [sIndent, hq]
        have HFin := Lib.hid hfin
        clear hfin
        rcases hcase with hmn | ⟨hmn, rfl, h1, h2⟩ | ⟨hmn, rfl, hno⟩
        · rw [hmn] at c15
          have HBk : RowKit.Hid (fcBrk v1 j L = true) := Lib.hid (by simp [fcBrk, hmn])
          clear hmn
          by_cases hgap : v1.ln + 1 < L
          · have hgp : (v1.ln : Int) + 1 < (L : Int) := by omega
            have hgN : v1.ln + 1 < L := by omega
            have HGN := Lib.hid (HFin.out true HBk.out (by exact .inl ⟨rfl, hgN⟩))
            have HW1 := Lib.hid (c_wb hT hok HX5.out 10 (x := 10) rfl (by have := HB0.out.1; unfold LIM; omega))
            clear hgN
            go_wp2_with (first
              | (go_at_call 343; refine HW1.out.mono ?_; rintro e w6 ⟨rfl, h6⟩
                 have d0 := h6.c0c
                 have d19 : w6.cell? ⟨pb, 19, none⟩ = some (.int .u64 (v1.ln : Int)) := h6.c19
                 have HW2 := Lib.hid (c_wb hT hok h6 10 (x := 10) rfl (by have := HB0.out.1; unfold LIM; rw [List.length_append, List.length_singleton]; omega))
                 clear h6 HW1)
              | (go_at_call 343; refine HW2.out.mono ?_; rintro e w7 ⟨rfl, h7⟩
                 have HIn := Lib.hid (c_indent hT hok h7 (Nat.le_trans HB0.out.2.1 (by decide)) (Nat.le_trans HB0.out.2.2.1 (by decide)) (by have h1 := HB0.out.1; have h2 := HB0.out.2.2.2; have h3 : (mIndent { v1 with fl := false }).length ≤ 65540 := h2; unfold LIM; simp only [List.length_append, List.length_singleton] at h1 ⊢; omega))
                 clear h7 HW2)
              | (go_at_call 87; refine HIn.out.mono ?_; rintro e w8 ⟨rfl, h8⟩
                 have g13 := h8.c13
                 have fg13 := h8.fz 13
                 have HX8 := Lib.hid (h8.setc hT (i := 13) (val := .int .u8 2) { sIndent { v1 with fl := false } with ws := 2 } (fun _ _ => rfl) rfl)
                 clear h8 HIn)
              | (go_at_call 66; refine (com_pos (o := 0) (HX8.out.at HBox.out.2)).mono ?_; rintro e w9 ⟨rfl, hu9⟩
                 have HPd := Lib.hid (c_spacePad hT hok (HX8.out.quiet hT hu9) 0 (lcP L) (lcP_lt L) (by unfold lcP; omega) (by have h1 := HB0.out.1; have h2 := HB0.out.2.2.2; have h3 : (mIndent { v1 with fl := false }).length ≤ 65540 := h2; unfold LIM; simp only [List.length_append, List.length_singleton] at h1 ⊢; omega))
                 clear hu9)
              | (go_at_call 71; refine HPd.out.mono ?_; rintro e w10 ⟨rfl, h10⟩; have H10 := Lib.hid h10; clear h10 HPd))
            go_meet
            obtain ⟨e1, e2⟩ := HGN.out
            have e3 := HD.out.2.2
            refine H10.out.cast ?_ ?_ ?_
            · rw [e1]
              have h3 : mIndent { v1 with fl := false } = mIndent v1 := rfl
              have h4 : ∀ q, cpT q { sIndent { v1 with fl := false } with ws := 2 } = [] := fun q => by
                unfold cpT
                split <;> rfl
              rw [h4]
              simp [h3]
            · rw [e2]
              have h4 : ∀ q, cpW q { sIndent { v1 with fl := false } with ws := 2 } = 2 := fun q => by
                unfold cpW
                split <;> rfl
              rw [h4]
            · rw [e3, e1]
              have h3 : mIndent { v1 with fl := false } = mIndent v1 := rfl
              have h4 : ∀ q, cpT q { sIndent { v1 with fl := false } with ws := 2 } = [] := fun q => by
                unfold cpT
                split <;> rfl
              rw [h4, clOf_nil, h3]
              simp only [← clOf_append]
              simp
          · have hgp : (L : Int) ≤ (v1.ln : Int) + 1 := by omega
            have hgN : ¬ v1.ln + 1 < L := by omega
            have HGN := Lib.hid (HFin.out false HBk.out (by exact .inr ⟨rfl, hgN⟩))
            have HW1 := Lib.hid (c_wb hT hok HX5.out 10 (x := 10) rfl (by have := HB0.out.1; unfold LIM; omega))
            clear hgN
            go_wp2_with (first
              | (go_at_call 343; refine HW1.out.mono ?_; rintro e w6 ⟨rfl, h6⟩
                 have d0 := h6.c0c
                 have d19 : w6.cell? ⟨pb, 19, none⟩ = some (.int .u64 (v1.ln : Int)) := h6.c19
                 have HIn := Lib.hid (c_indent hT hok h6 (Nat.le_trans HB0.out.2.1 (by decide)) (Nat.le_trans HB0.out.2.2.1 (by decide)) (by have h1 := HB0.out.1; have h2 := HB0.out.2.2.2; have h3 : (mIndent { v1 with fl := false }).length ≤ 65540 := h2; unfold LIM; simp only [List.length_append, List.length_singleton] at h1 ⊢; omega))
                 clear h6 HW1)
              | (go_at_call 87; refine HIn.out.mono ?_; rintro e w8 ⟨rfl, h8⟩
                 have g13 := h8.c13
                 have fg13 := h8.fz 13
                 have HX8 := Lib.hid (h8.setc hT (i := 13) (val := .int .u8 2) { sIndent { v1 with fl := false } with ws := 2 } (fun _ _ => rfl) rfl)
                 clear h8 HIn)
              | (go_at_call 66; refine (com_pos (o := 0) (HX8.out.at HBox.out.2)).mono ?_; rintro e w9 ⟨rfl, hu9⟩
                 have HPd := Lib.hid (c_spacePad hT hok (HX8.out.quiet hT hu9) 0 (lcP L) (lcP_lt L) (by unfold lcP; omega) (by have h1 := HB0.out.1; have h2 := HB0.out.2.2.2; have h3 : (mIndent { v1 with fl := false }).length ≤ 65540 := h2; unfold LIM; simp only [List.length_append, List.length_singleton] at h1 ⊢; omega))
                 clear hu9)
              | (go_at_call 71; refine HPd.out.mono ?_; rintro e w10 ⟨rfl, h10⟩; have H10 := Lib.hid h10; clear h10 HPd))
            go_meet
            obtain ⟨e1, e2⟩ := HGN.out
            have e3 := HD.out.2.2
            refine H10.out.cast ?_ ?_ ?_
            · rw [e1]
              have h3 : mIndent { v1 with fl := false } = mIndent v1 := rfl
              have h4 : ∀ q, cpT q { sIndent { v1 with fl := false } with ws := 2 } = [] := fun q => by
                unfold cpT
                split <;> rfl
              rw [h4]
              simp [h3]
            · rw [e2]
              have h4 : ∀ q, cpW q { sIndent { v1 with fl := false } with ws := 2 } = 2 := fun q => by
                unfold cpW
                split <;> rfl
              rw [h4]
            · rw [e3, e1]
              have h3 : mIndent { v1 with fl := false } = mIndent v1 := rfl
              have h4 : ∀ q, cpT q { sIndent { v1 with fl := false } with ws := 2 } = [] := fun q => by
                unfold cpT
                split <;> rfl
              rw [h4, clOf_nil, h3]
              simp only [← clOf_append]
              simp
        · rw [hmn] at c15
          have HBk : RowKit.Hid (fcBrk v1 0 L = true) := Lib.hid (by simp [fcBrk, h1, h2])
          have h1I : (v1.ln : Int) < (L : Int) := by omega
          have h2I : (0 : Int) < (v1.ln : Int) := by omega
          clear hmn h1 h2
          by_cases hgap : v1.ln + 1 < L
          · have hgp : (v1.ln : Int) + 1 < (L : Int) := by omega
            have hgN : v1.ln + 1 < L := by omega
            have HGN := Lib.hid (HFin.out true HBk.out (by exact .inl ⟨rfl, hgN⟩))
            have HW1 := Lib.hid (c_wb hT hok HX5.out 10 (x := 10) rfl (by have := HB0.out.1; unfold LIM; omega))
            clear hgN
            go_wp2_with (first
              | (go_at_call 343; refine HW1.out.mono ?_; rintro e w6 ⟨rfl, h6⟩
                 have d0 := h6.c0c
                 have d19 : w6.cell? ⟨pb, 19, none⟩ = some (.int .u64 (v1.ln : Int)) := h6.c19
                 have HW2 := Lib.hid (c_wb hT hok h6 10 (x := 10) rfl (by have := HB0.out.1; unfold LIM; rw [List.length_append, List.length_singleton]; omega))
                 clear h6 HW1)
              | (go_at_call 343; refine HW2.out.mono ?_; rintro e w7 ⟨rfl, h7⟩
                 have HIn := Lib.hid (c_indent hT hok h7 (Nat.le_trans HB0.out.2.1 (by decide)) (Nat.le_trans HB0.out.2.2.1 (by decide)) (by have h1 := HB0.out.1; have h2 := HB0.out.2.2.2; have h3 : (mIndent { v1 with fl := false }).length ≤ 65540 := h2; unfold LIM; simp only [List.length_append, List.length_singleton] at h1 ⊢; omega))
                 clear h7 HW2)
              | (go_at_call 87; refine HIn.out.mono ?_; rintro e w8 ⟨rfl, h8⟩
                 have g13 := h8.c13
                 have fg13 := h8.fz 13
                 have HX8 := Lib.hid (h8.setc hT (i := 13) (val := .int .u8 2) { sIndent { v1 with fl := false } with ws := 2 } (fun _ _ => rfl) rfl)
                 clear h8 HIn)
              | (go_at_call 66; refine (com_pos (o := 0) (HX8.out.at HBox.out.2)).mono ?_; rintro e w9 ⟨rfl, hu9⟩
                 have HPd := Lib.hid (c_spacePad hT hok (HX8.out.quiet hT hu9) 0 (lcP L) (lcP_lt L) (by unfold lcP; omega) (by have h1 := HB0.out.1; have h2 := HB0.out.2.2.2; have h3 : (mIndent { v1 with fl := false }).length ≤ 65540 := h2; unfold LIM; simp only [List.length_append, List.length_singleton] at h1 ⊢; omega))
                 clear hu9)
              | (go_at_call 71; refine HPd.out.mono ?_; rintro e w10 ⟨rfl, h10⟩; have H10 := Lib.hid h10; clear h10 HPd))
            go_meet
            obtain ⟨e1, e2⟩ := HGN.out
            have e3 := HD.out.2.2
            refine H10.out.cast ?_ ?_ ?_
            · rw [e1]
              have h3 : mIndent { v1 with fl := false } = mIndent v1 := rfl
              have h4 : ∀ q, cpT q { sIndent { v1 with fl := false } with ws := 2 } = [] := fun q => by
                unfold cpT
                split <;> rfl
              rw [h4]
              simp [h3]
            · rw [e2]
              have h4 : ∀ q, cpW q { sIndent { v1 with fl := false } with ws := 2 } = 2 := fun q => by
                unfold cpW
                split <;> rfl
              rw [h4]
            · rw [e3, e1]
              have h3 : mIndent { v1 with fl := false } = mIndent v1 := rfl
              have h4 : ∀ q, cpT q { sIndent { v1 with fl := false } with ws := 2 } = [] := fun q => by
                unfold cpT
                split <;> rfl
              rw [h4, clOf_nil, h3]
              simp only [← clOf_append]
              simp
          · have hgp : (L : Int) ≤ (v1.ln : Int) + 1 := by omega
            have hgN : ¬ v1.ln + 1 < L := by omega
            have HGN := Lib.hid (HFin.out false HBk.out (by exact .inr ⟨rfl, hgN⟩))
            have HW1 := Lib.hid (c_wb hT hok HX5.out 10 (x := 10) rfl (by have := HB0.out.1; unfold LIM; omega))
            clear hgN
            go_wp2_with (first
              | (go_at_call 343; refine HW1.out.mono ?_; rintro e w6 ⟨rfl, h6⟩
                 have d0 := h6.c0c
                 have d19 : w6.cell? ⟨pb, 19, none⟩ = some (.int .u64 (v1.ln : Int)) := h6.c19
                 have HIn := Lib.hid (c_indent hT hok h6 (Nat.le_trans HB0.out.2.1 (by decide)) (Nat.le_trans HB0.out.2.2.1 (by decide)) (by have h1 := HB0.out.1; have h2 := HB0.out.2.2.2; have h3 : (mIndent { v1 with fl := false }).length ≤ 65540 := h2; unfold LIM; simp only [List.length_append, List.length_singleton] at h1 ⊢; omega))
                 clear h6 HW1)
              | (go_at_call 87; refine HIn.out.mono ?_; rintro e w8 ⟨rfl, h8⟩
                 have g13 := h8.c13
                 have fg13 := h8.fz 13
                 have HX8 := Lib.hid (h8.setc hT (i := 13) (val := .int .u8 2) { sIndent { v1 with fl := false } with ws := 2 } (fun _ _ => rfl) rfl)
                 clear h8 HIn)
              | (go_at_call 66; refine (com_pos (o := 0) (HX8.out.at HBox.out.2)).mono ?_; rintro e w9 ⟨rfl, hu9⟩
                 have HPd := Lib.hid (c_spacePad hT hok (HX8.out.quiet hT hu9) 0 (lcP L) (lcP_lt L) (by unfold lcP; omega) (by have h1 := HB0.out.1; have h2 := HB0.out.2.2.2; have h3 : (mIndent { v1 with fl := false }).length ≤ 65540 := h2; unfold LIM; simp only [List.length_append, List.length_singleton] at h1 ⊢; omega))
                 clear hu9)
              | (go_at_call 71; refine HPd.out.mono ?_; rintro e w10 ⟨rfl, h10⟩; have H10 := Lib.hid h10; clear h10 HPd))
            go_meet
            obtain ⟨e1, e2⟩ := HGN.out
            have e3 := HD.out.2.2
            refine H10.out.cast ?_ ?_ ?_
            · rw [e1]
              have h3 : mIndent { v1 with fl := false } = mIndent v1 := rfl
              have h4 : ∀ q, cpT q { sIndent { v1 with fl := false } with ws := 2 } = [] := fun q => by
                unfold cpT
                split <;> rfl
              rw [h4]
              simp [h3]
            · rw [e2]
              have h4 : ∀ q, cpW q { sIndent { v1 with fl := false } with ws := 2 } = 2 := fun q => by
                unfold cpW
                split <;> rfl
              rw [h4]
            · rw [e3, e1]
              have h3 : mIndent { v1 with fl := false } = mIndent v1 := rfl
              have h4 : ∀ q, cpT q { sIndent { v1 with fl := false } with ws := 2 } = [] := fun q => by
                unfold cpT
                split <;> rfl
              rw [h4, clOf_nil, h3]
              simp only [← clOf_append]
              simp
        · rw [hmn] at c15
          have hbk : fcBrk v1 0 L = false := by
            simp only [fcBrk, hmn, Bool.false_or, Bool.or_eq_false_iff, Bool.and_eq_false_iff, decide_eq_false_iff_not]
            refine ⟨by omega, ?_⟩
            omega
          have hno2 : ((v1.ln : Int) < (L : Int) ∧ v1.ln = 0) ∨ (L : Int) ≤ (v1.ln : Int) := by omega
          have hfin2 : ld = (if v1.ws = 1 then (cpT cl1 v1) else if v1.ws = 2 then [] else [32]) ∧ v2 = { (if v1.ws = 1 then ({ v1 with ws := cpW cl1 v1 } : VS) else { v1 with ws := 2 }) with fl := false } := by
            obtain ⟨e1, e2, _⟩ := HD.out
            rw [e1, e2]
            unfold fcLead fcV
            rw [hbk]
            exact ⟨rfl, rfl⟩
          have HF2 := Lib.hid hfin2
          clear hfin2 hbk hmn hno
          by_cases hw1 : v1.ws = 1
          · have hf3 : ld = (cpT cl1 v1) ∧ v2 = { ({ v1 with ws := cpW cl1 v1 } : VS) with fl := false } := by
              have h1 := HF2.out
              rw [if_pos hw1, if_pos hw1] at h1
              exact h1
            have HF3 := Lib.hid hf3
            rw [hw1] at c13
            have HWs1 := Lib.hid hw1
            clear hf3 hw1 HF2
            rcases hno2 with ⟨hn1, hn2⟩ | hn1
            · rw [hn2] at c19 hn1
              clear hn2
              go_wp2_with (first
                | (go_at_call 66; refine (com_pos (o := 0) (HX5.out.at HBox.out.2)).mono ?_; rintro e w9 ⟨rfl, hu9⟩
                   have HPd := Lib.hid (c_spacePad hT hok (HX5.out.quiet hT hu9) 0 (lcP L) (lcP_lt L) (by unfold lcP; omega) (by have h1 := HB0.out.1; unfold LIM; omega))
                   clear hu9)
                | (go_at_call 71; refine HPd.out.mono ?_; rintro e w10 ⟨rfl, h10⟩; have H10 := Lib.hid h10; clear h10 HPd))
              go_meet
              exact H10.out.cast (by rw [HF3.out.1]; rfl) (by rw [HF3.out.2]; rfl) (by rw [HD.out.2.2, HF3.out.1]; rfl)
            · go_wp2_with (first
                | (go_at_call 66; refine (com_pos (o := 0) (HX5.out.at HBox.out.2)).mono ?_; rintro e w9 ⟨rfl, hu9⟩
                   have HPd := Lib.hid (c_spacePad hT hok (HX5.out.quiet hT hu9) 0 (lcP L) (lcP_lt L) (by unfold lcP; omega) (by have h1 := HB0.out.1; unfold LIM; omega))
                   clear hu9)
                | (go_at_call 71; refine HPd.out.mono ?_; rintro e w10 ⟨rfl, h10⟩; have H10 := Lib.hid h10; clear h10 HPd))
              go_meet
              exact H10.out.cast (by rw [HF3.out.1]; rfl) (by rw [HF3.out.2]; rfl) (by rw [HD.out.2.2, HF3.out.1]; rfl)
          · have hw1I : ((v1.ws : Int) == 1) = false := by rw [beq_eq_false_iff_ne]; omega
            by_cases hw2 : v1.ws = 2
            · have hf3 : ld = [] ∧ v2 = { ({ v1 with ws := 2 } : VS) with fl := false } := by
                have h1 := HF2.out
                rw [if_neg hw1, if_neg hw1, if_pos hw2] at h1
                exact h1
              have HF3 := Lib.hid hf3
              have HV2 : RowKit.Hid (({ v1 with fl := false } : VS) = { ({ v1 with ws := 2 } : VS) with fl := false }) := Lib.hid (by rw [← hw2])
              rw [hw2] at c13 hw1I
              clear hf3 hw1 hw2 HF2 hw1I
              rcases hno2 with ⟨hn1, hn2⟩ | hn1
              · rw [hn2] at c19 hn1
                clear hn2
                go_wp2_with fail
                go_meet
                exact HX5.out.cast (by rw [HF3.out.1]; simp) (by rw [HF3.out.2]; exact HV2.out) (by rw [HD.out.2.2, HF3.out.1, clOf_nil])
              · go_wp2_with fail
                go_meet
                exact HX5.out.cast (by rw [HF3.out.1]; simp) (by rw [HF3.out.2]; exact HV2.out) (by rw [HD.out.2.2, HF3.out.1, clOf_nil])
            · have hf3 : ld = [32] ∧ v2 = { ({ v1 with ws := 2 } : VS) with fl := false } := by
                have h1 := HF2.out
                rw [if_neg hw1, if_neg hw1, if_neg hw2] at h1
                exact h1
              have HF3 := Lib.hid hf3
              have hw2I : ((v1.ws : Int) != 2) = true := by rw [bne_iff_ne]; omega
              have HSp := Lib.hid (c_space hT hok HX5.out (by have := HB0.out.1; unfold LIM; omega))
              clear hf3 hw1 hw2 HF2
              rcases hno2 with ⟨hn1, hn2⟩ | hn1
              · rw [hn2] at c19 hn1
                clear hn2
                go_wp2_with (go_at_call 89; refine HSp.out.mono ?_; rintro e w6 ⟨rfl, h6⟩; have H6 := Lib.hid h6; clear h6 HSp)
                go_meet
                exact H6.out.cast (by rw [HF3.out.1]) (by rw [HF3.out.2]) (by rw [HD.out.2.2, HF3.out.1])
              · go_wp2_with (go_at_call 89; refine HSp.out.mono ?_; rintro e w6 ⟨rfl, h6⟩; have H6 := Lib.hid h6; clear h6 HSp)
                go_meet
                exact H6.out.cast (by rw [HF3.out.1]) (by rw [HF3.out.2]) (by rw [HD.out.2.2, HF3.out.1])
      case rest =>
        have HAd := Lib.hid (c_advance hT hcut L)
        have HLd : RowKit.Hid (ld.length ≤ 65542) := Lib.hid (by
          rw [HD.out.1]
          have h1 := fcLead_len true cl1 v1 j L
          have h2 := HB0.out.2.2.2
          omega)
        have HTl := Lib.hid (trimB_len t)
        clear hcut
        go_wp2_with (first
          | (go_at_call 69; refine HAd.out.mono ?_; rintro e w11 ⟨rfl, h11⟩
             have d0 := h11.c0c
             have HW3 := Lib.hid (c_wb hT hok h11 35 (x := 35) rfl (by have h1 := HB0.out.1; have h2 := HLd.out; rw [List.length_append]; unfold LIM; omega))
             clear h11 HAd)
          | (go_at_call 343; refine HW3.out.mono ?_; rintro e w12 ⟨rfl, h12⟩
             have b2 : w12.cell? ⟨wr.heap.size, 2, none⟩ = some (.string t) := cell_at (h12.at HBox.out.2) 2
             have HTm := Lib.hid (HTr.out _ _ _ _ _ _ (HBox.out.1 _ _ _ _ _ _ h12) t HLt.out.2)
             have HX12 := Lib.hid h12
             clear h12 HW3)
          | (go_at_call 121; refine HTm.out.mono ?_; rintro e w13 ⟨rfl, hu13⟩
             have HLit := Lib.hid (c_writeLit hT hok (HX12.out.quiet hT hu13) (trimB t) (by have h1 := HB0.out.1; have h2 := HLd.out; have h3 := HTl.out; have h4 : t.size ≤ 1048576 := HLt.out.2; simp only [List.length_append, List.length_singleton] at h1 ⊢; unfold LIM; omega))
             clear hu13 HTm)
          | (go_at_call 103; refine HLit.out.mono ?_; rintro e w14 ⟨rfl, h14⟩
             have d14 := h14.c14
             have d15 := h14.c15
             have f14 := h14.fz 14
             have f15 := h14.fz 15
             have HX15 := Lib.hid ((h14.setc hT (i := 14) (val := .bool true) { ({ v2 with ln := max v2.ln L } : VS) with wn := true } (fun _ _ => rfl) rfl).setc hT (i := 15) (val := .bool true) { ({ v2 with ln := max v2.ln L } : VS) with wn := true, mn := true } (fun _ _ => rfl) rfl)
             clear h14 HLit))
        go_roundg (n - (j + 1))
        case measure => have := HJ.out.1; omega
        case rel =>
          obtain ⟨e1, e2, e3⟩ := HD.out
          obtain ⟨hjk, hall, hmn, hk1, hlv1, hln1, htl⟩ := HJ.out
          have hvk := fcS_k true cl1 v1 j L
          have hst : ({ ({ v2 with ln := max v2.ln L } : VS) with wn := true, mn := true } : VS) = fcS true cl1 v1 j L := by
            rw [e2]
            have h1 := (fcV_k true cl1 v1 j L).2.2.1
            unfold fcS
            show ({ fcV true cl1 v1 j L with fl := false, ln := max (fcV true cl1 v1 j L).ln L, wn := true, mn := true } : VS) = _
            rw [h1]
          have htx : ld ++ [35] ++ litB (trimB t).data.toList = fcT true cl1 v1 j L (trimB t).data.toList := by rw [e1]; rfl
          have hlen := fcT_len true cl1 v1 j L (trimB t).data.toList
          have htk : cs.take (j + 1) = cs.take j ++ [(L, t)] := by rw [List.take_succ_eq_append_getElem hj, HCj.out]
          have hjl : (cs.take j).length = j := by rw [List.length_take]; omega
          refine ⟨j + 1, t1 ++ fcT true cl1 v1 j L (trimB t).data.toList, fcS true cl1 v1 j L, clOf true cl1 (fcT true cl1 v1 j L (trimB t).data.toList), by go_num, by omega, ?_, fun _ => hvk.2.2.2.2, by rw [hvk.1]; exact hk1, by rw [hvk.2.1]; exact hlv1, ?_, ?_, ?_⟩
          · rw [htk, fcAll_snoc true (L, t) _ _ _ _ _ _ _ hall, hjl, Nat.zero_add]
          · show max v1.ln L ≤ _
            have : L ≤ 262143 := HLt.out.1
            omega
          · rw [List.length_append]
            have h2 := HB0.out.2.2.2
            have h3 := HTl.out
            have h4 : t.size ≤ 1048576 := HLt.out.2
            have h5 : (trimB t).data.toList.length = (trimB t).size := rfl
            omega
          · refine (HBox.out.1 _ _ _ _ _ _ HX15.out).cast ?_ hst ?_
            · rw [← htx]
              simp only [List.append_assoc]
            · rw [← htx, e3]
              simp only [clOf_append]
    · obtain rfl : j = n := by omega
      have hltI : ¬ (j : Int) < (j : Int) := by omega
      have c17r := hX.c17
      have f17r := hX.fz 17
      have HX17 := Lib.hid (hX.setpc hT (.slice none 0 0))
      clear hX hjk hall hmn hk1 hlv1 hln1 htl
      go_wp2_with fail
      go_end0
      have hall := HJ.out.2.1
      rw [HC.out.2.2.1, List.take_length] at hall
      rw [hall]
      exact ⟨rfl, HX17.out⟩
end
end Go.Proofs.YtmdkpihlhdjjaaaGreatFmt
