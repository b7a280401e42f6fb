/-
  The Printer with comments to print, its writer plain: what its methods write.
-/
import Derived.Test.YtmdkpihlhdjjaaaGreatFmtKFxAX
import Derived.Defers
namespace Go.Proofs.YtmdkpihlhdjjaaaGreatFmt
open Go.RowKit

section
variable {T : Sink} {pb b : Nat} {K : Nat} {pc : Value} {B : Base} {w : World} {l : List UInt8} {v : VS} {cl : Bool}

theorem n_wb (hT : TOk T) (hok : (∀ c, T.okb c = true) ∧ K ≤ LIM) (h : FX T pb b false K pc B w l v cl) (c : UInt8) {x : Int} (hx : x = (c.toNat : Int)) (hl : l.length < LIM) :
    Calls Tryz.prog 242 #[.pointer (some ⟨b, 0, none⟩), .int .u8 x] w fun e w' => e = .returned .nilIface ∧ FX T pb b false K pc B w' (l ++ [c]) v (clOf false cl [c]) := by
  obtain ⟨F, h, cc, y, y1, y2, y3⟩ := h
  refine (wb_any hT.law c hx y.buf (hok.1 c) hl).mono ?_
  rintro e w' ⟨rfl, F', h1, h2, h3⟩
  exact ⟨rfl, F', h, cc, y.wrote h1 h2 h3, y1, by rw [List.length_append, List.length_singleton]; omega, y3⟩

theorem n_ws (hT : TOk T) (hok : (∀ c, T.okb c = true) ∧ K ≤ LIM) (h : FX T pb b false K pc B w l v cl) (t : ByteArray) (hl : l.length + t.size ≤ LIM) :
    Calls Tryz.prog 243 #[.pointer (some ⟨b, 0, none⟩), .string t] w fun e w' => e = .returned (.tuple #[.int .i64 (t.size : Int), .nilIface]) ∧ FX T pb b false K pc B w' (l ++ t.data.toList) v (clOf false cl t.data.toList) := by
  obtain ⟨F, h, cc, y, y1, y2, y3⟩ := h
  refine (hT.wstr t y.buf (fun c _ => hok.1 c) hl).mono ?_
  rintro e w' ⟨rfl, F', h1, h2, h3⟩
  exact ⟨rfl, F', h, cc, y.wrote h1 h2 h3, y1, by rw [List.length_append]; omega, y3⟩

theorem n_wbd (hT : TOk T) (hok : (∀ c, T.okb c = true) ∧ K ≤ LIM) {u : FrameMode} (h : FX T pb b false K pc B w l v cl) (c : UInt8) {x : Int} (hx : x = (c.toNat : Int)) (hl : l.length < LIM) :
    CallsD Tryz.prog 242 #[.pointer (some ⟨b, 0, none⟩), .int .u8 x] u w fun e u' w' => u' = u ∧ e = .returned .nilIface ∧ FX T pb b false K pc B w' (l ++ [c]) v (clOf false cl [c]) := by
  obtain ⟨F, h, cc, y, y1, y2, y3⟩ := h
  refine (wbd_any hT.law c hx y.buf (hok.1 c) hl).mono ?_
  rintro e u' w' ⟨rfl, rfl, F', h1, h2, h3⟩
  exact ⟨rfl, rfl, F', h, cc, y.wrote h1 h2 h3, y1, by rw [List.length_append, List.length_singleton]; omega, y3⟩

set_option maxRecDepth 100000 in
set_option maxHeartbeats 1000000 in
theorem n_spaces (hT : TOk T) (hok : (∀ c, T.okb c = true) ∧ K ≤ LIM) (h : FX T pb b false K pc B w l v cl) (n : Nat) (hl : l.length + n ≤ LIM) :
    Calls Tryz.prog 139 #[.pointer (some ⟨pb, 0, none⟩), .int .u64 (n : Int)] w fun e w' => e = .returned (.tuple #[]) ∧ FX T pb b false K pc B w' (l ++ List.replicate n 32) v (clOf false cl (List.replicate n 32)) := by
  have hm := bw_meth_wb b
  have ha := bw_ahead_wb b
  have hn : (n : Int) ≤ 1099511627776 := by unfold LIM at hl; omega
  have HX := Lib.hid h
  have HL := Lib.hid hl
  clear h hl
  go_enter Tryz.func139, Tryz.ntmps139
  go_wp2_with fail
  go_loopg [5] n (fun k v5 wr => ∃ j : Nat, v5 = .int .u64 (j : Int) ∧ j + k = n ∧ FX T pb b false K pc B wr (l ++ List.replicate j 32) v (clOf false cl (List.replicate j 32)))
  case atStart => exact ⟨0, rfl, by omega, HX.out.cast (by simp) rfl (clOf_nil _ _).symm⟩
  case round =>
    obtain ⟨j, rfl, hjk, hX⟩ := hrel
    have HJ := Lib.hid hjk
    have c0 := hX.c0n
    by_cases hlt : j < n
    · have hltI : (j : Int) < (n : Int) := by omega
      have HW := Lib.hid (n_wb hT hok hX 32 (x := 32) rfl (by have := HL.out; rw [List.length_append, List.length_replicate]; omega))
      clear hX hjk
      go_wp2_with (go_at_call 242; refine HW.out.mono ?_; rintro e w1 ⟨rfl, h1⟩; have H1 := Lib.hid h1; clear h1 HW)
      go_roundg (n - (j + 1))
      case measure => have := HJ.out; omega
      case rel =>
        refine ⟨j + 1, by go_num, by omega, H1.out.cast ?_ rfl ?_⟩
        · rw [List.replicate_succ', ← List.append_assoc]
        · rw [List.replicate_succ', clOf_append]
    · obtain rfl : j = n := by omega
      have HX2 := Lib.hid hX
      clear hX hjk
      go_wp2_with fail
      go_end0
      exact ⟨rfl, HX2.out⟩

set_option maxRecDepth 100000 in
set_option maxHeartbeats 4000000 in
theorem n_indent (hT : TOk T) (hok : (∀ c, T.okb c = true) ∧ K ≤ LIM) (h : FX T pb b false K pc B w l v cl) (hkl : v.k * v.lv ≤ 4294967296) (hlv : v.lv ≤ 4294967296) (hl : l.length + (mIndent v).length ≤ LIM) :
    Calls Tryz.prog 87 #[.pointer (some ⟨pb, 0, none⟩)] w fun e w' => e = .returned (.tuple #[]) ∧ FX T pb b false K pc B w' (l ++ mIndent v) (sIndent v) (clOf false cl (mIndent v)) := by
  have hm := bw_meth_wb b
  have ha := bw_ahead_wb b
  have c0 := h.c0n
  have c5 := h.c5
  have c10 := h.c10
  have c20 := h.c20
  have c21 := h.c21
  have f20 := h.fz 20
  cases hmi : v.mi
  · rw [hmi] at c10
    have h1 := h.setc hT (i := 20) (val := .int .u64 (v.lv : Int)) { v with ll := v.lv } (fun _ _ => rfl) rfl
    have hs : sIndent v = { v with ll := v.lv } := by simp [sIndent, hmi]
    by_cases h0 : v.lv = 0
    · have hout : mIndent v = [] := by simp [mIndent, h0]
      have H1 := Lib.hid h1
      have HO := Lib.hid (And.intro hs hout)
      have h0I : (v.lv : Int) = 0 := by omega
      clear h h1 hs hout hl
      rw [h0I] at c21
      rw [h0I] at H1
      clear h0 h0I
      go_enter Tryz.func87, Tryz.ntmps87
      go_wp2
      go_end0
      rw [HO.out.2, HO.out.1, List.append_nil, clOf_nil]
      exact ⟨rfl, H1.out⟩
    · have h0I : ((v.lv : Int) == 0) = false := by rw [beq_eq_false_iff_ne]; omega
      by_cases hk0 : v.k = 0
      · have hout : mIndent v = [255] ++ List.replicate v.lv 9 ++ [255] := by simp [mIndent, h0, hmi, hk0]
        have hlen : l.length + (v.lv + 2) ≤ LIM := by rw [hout] at hl; simp only [List.length_append, List.length_replicate, List.length_singleton] at hl; omega
        have HO := Lib.hid (And.intro hs hout)
        have HK := Lib.hid hlen
        have hlvI : (v.lv : Int) ≤ 4294967296 := by omega
        have hkI : (v.k : Int) = 0 := by omega
        rw [hkI] at c5
        have HW := Lib.hid (n_wb hT hok h1 255 (x := 255) rfl (by omega))
        clear h h1 hs hout hl hlen h0 hk0 hkI
        go_enter Tryz.func87, Tryz.ntmps87
        go_wp2_with (go_at_call 242; refine HW.out.mono ?_; rintro e w1 ⟨rfl, h1⟩; have H1 := Lib.hid h1; clear h1 HW)
        go_loopg [2] v.lv (fun k v2 wr => ∃ j : Nat, v2 = .int .u64 (j : Int) ∧ j + k = v.lv ∧ FX T pb b false K pc B wr (l ++ ([255] ++ List.replicate j 9)) { v with ll := v.lv } (clOf false cl ([255] ++ List.replicate j 9)))
        case atStart => exact ⟨0, rfl, by omega, H1.out.cast (by simp) rfl (by simp)⟩
        case round =>
          obtain ⟨j, rfl, hjk, hX⟩ := hrel
          have d0 := hX.c0n
          have d21 : wr.cell? ⟨pb, 21, none⟩ = some (.int .u64 (v.lv : Int)) := hX.c21
          have HJ := Lib.hid hjk
          by_cases hlt : j < v.lv
          · have hltI : (j : Int) < (v.lv : Int) := by omega
            have HW2 := Lib.hid (n_wb hT hok hX 9 (x := 9) rfl (by have := HK.out; simp only [List.length_append, List.length_replicate, List.length_singleton]; omega))
            clear hX hjk
            go_wp2_with (go_at_call 242; refine HW2.out.mono ?_; rintro e w2 ⟨rfl, h2⟩; have H2 := Lib.hid h2; clear h2 HW2)
            go_roundg (v.lv - (j + 1))
            case measure => have := HJ.out; omega
            case rel =>
              refine ⟨j + 1, by go_num, by omega, H2.out.cast ?_ rfl ?_⟩
              · rw [List.replicate_succ']
                simp only [List.append_assoc]
              · rw [List.replicate_succ', ← clOf_append]
                simp only [List.append_assoc]
          · have hltI : ¬ (j : Int) < (v.lv : Int) := by omega
            have HW2 := Lib.hid (n_wb hT hok hX 255 (x := 255) rfl (by have := HK.out; simp only [List.length_append, List.length_replicate, List.length_singleton]; omega))
            clear hX hjk
            go_wp2_with (go_at_call 242; refine HW2.out.mono ?_; rintro e w2 ⟨rfl, h2⟩; have H2 := Lib.hid h2; clear h2 HW2)
            go_end0
            have hjl : j = v.lv := by have := HJ.out; omega
            refine ⟨rfl, H2.out.cast ?_ ?_ ?_⟩
            · rw [HO.out.2, hjl]
              simp only [List.append_assoc]
            · rw [HO.out.1]
            · rw [HO.out.2, hjl, ← clOf_append]
      · have hkI : ((v.k : Int) == 0) = false := by rw [beq_eq_false_iff_ne]; omega
        have hout : mIndent v = List.replicate (v.k * v.lv) 32 := by simp [mIndent, h0, hmi, hk0]
        obtain ⟨n, hn⟩ : ∃ n, n = v.k * v.lv := ⟨_, rfl⟩
        have hmul : IntKind.u64.wrap ((v.k : Int) * (v.lv : Int)) = (n : Int) := by
          rw [hn, IntKind.wrap_u64, Int.natCast_mul]
          have h1 : (v.k : Int) * (v.lv : Int) ≤ 4294967296 := by rw [← Int.natCast_mul]; omega
          have h2 : 0 ≤ (v.k : Int) * (v.lv : Int) := by rw [← Int.natCast_mul]; omega
          omega
        have HS := Lib.hid (fun W (hW : Upd (fun _ => False) _ W) => n_spaces hT hok (h1.quiet hT hW) n (by rw [hn]; rw [hout, List.length_replicate] at hl; exact hl))
        have HO := Lib.hid (And.intro hs (And.intro hout hn))
        clear h h1 hs hout hl hkl h0 hk0 hn hlv
        go_enter Tryz.func87, Tryz.ntmps87
        go_wp2_with fail
        go_region_held3 (fun w' => w'.cell? ⟨pb, 5, none⟩ = some (.int .u64 (v.k : Int)) ∧ w'.cell? ⟨pb, 21, none⟩ = some (.int .u64 (v.lv : Int))) (first | (refine ⟨?_, ?_⟩ <;> simp [go_sem, *]; done) | exact ⟨k1, k2⟩ | simp [go_sem, *])
          (first
            | (go_at_call 139; refine (HS.out _ (Upd.refl _ _).drew).mono ?_; rintro e w1 ⟨rfl, h1⟩
               have k1 : w1.cell? ⟨pb, 5, none⟩ = some (.int .u64 (v.k : Int)) := h1.c5
               have k2 : w1.cell? ⟨pb, 21, none⟩ = some (.int .u64 (v.lv : Int)) := h1.c21
               have H1 := Lib.hid h1
               clear h1))
        go_wp2_with fail
        go_end0
        refine ⟨rfl, H1.out.cast ?_ ?_ ?_⟩
        · rw [HO.out.2.1, HO.out.2.2]
        · rw [HO.out.1]
        · rw [HO.out.2.1, HO.out.2.2]
  · rw [hmi] at c10
    have hs : sIndent v = v := by simp [sIndent, hmi]
    have hout : mIndent v = [] := by simp [mIndent, hmi]
    have H1 := Lib.hid h
    have HO := Lib.hid (And.intro hs hout)
    clear h hs hout hl
    go_enter Tryz.func87, Tryz.ntmps87
    go_wp2
    refine bodyPost_ret (v := .tuple #[]) (results_none rfl _ _ _) rfl ?_
    rw [HO.out.1, HO.out.2, List.append_nil, clOf_nil]
    exact ⟨rfl, H1.out⟩

set_option maxRecDepth 100000 in
set_option maxHeartbeats 1000000 in
theorem n_space (hT : TOk T) (hok : (∀ c, T.okb c = true) ∧ K ≤ LIM) (h : FX T pb b false K pc B w l v cl) (hl : l.length + 1 ≤ LIM) :
    Calls Tryz.prog 89 #[.pointer (some ⟨pb, 0, none⟩)] w fun e w' => e = .returned (.tuple #[]) ∧ FX T pb b false K pc B w' (l ++ [32]) { v with ws := 2 } (clOf false cl [32]) := by
  have c0 := h.c0n
  have hm := bw_meth_wb b
  have ha := bw_ahead_wb b
  have HW := Lib.hid (n_wb hT hok h 32 (x := 32) rfl (by omega))
  clear h hl
  go_enter Tryz.func89, Tryz.ntmps89
  go_wp2_with (go_at_call 242; refine HW.out.mono ?_)
  rintro e w1 ⟨rfl, h1⟩
  have d13 := h1.c13
  have f13 := h1.fz 13
  have H1 := Lib.hid h1
  clear h1
  go_wp2
  go_end0
  exact ⟨rfl, H1.out.setc hT { v with ws := 2 } (fun _ _ => rfl) rfl⟩

set_option maxRecDepth 100000 in
theorem n_advance (hT : TOk T) (h : FX T pb b false K pc B w l v cl) (L : Nat) :
    Calls Tryz.prog 69 #[.pointer (some ⟨pb, 0, none⟩), .int .u64 (L : Int)] w fun e w' => e = .returned (.tuple #[]) ∧ FX T pb b false K pc B w' l { v with ln := max v.ln L } cl := by
  have c19 := h.c19
  have f19 := h.fz 19
  have hmax : max (v.ln : Int) (L : Int) = ((max v.ln L : Nat) : Int) := by omega
  have HA := Lib.hid h
  clear h
  go_enter Tryz.func69, Tryz.ntmps69
  go_wp2
  go_end0
  exact ⟨rfl, HA.out.setc hT { v with ln := max v.ln L } (fun _ _ => rfl) rfl⟩

set_option maxRecDepth 100000 in
theorem n_fh (h : FX T pb b false K pc B w l v cl) :
    Calls Tryz.prog 46 #[.pointer (some ⟨pb, 0, none⟩)] w fun e w' => e = .returned (.tuple #[]) ∧ w = w' := by
  obtain ⟨a, c, c24⟩ := h.c24
  clear h
  go_enter Tryz.func46, Tryz.ntmps46
  go_wp2
  refine bodyPost_ret (v := .tuple #[]) (results_none rfl _ _ _) rfl ?_
  exact ⟨rfl, rfl⟩

set_option maxRecDepth 100000 in
set_option maxHeartbeats 2000000 in
theorem n_spacePad (hT : TOk T) (hok : (∀ c, T.okb c = true) ∧ K ≤ LIM) (h : FX T pb b false K pc B w l v cl) (o lc : Nat) (hl : l.length + 1 ≤ LIM) :
    Calls Tryz.prog 71 #[.pointer (some ⟨pb, 0, none⟩), posV o lc] w fun e w' => e = .returned (.tuple #[]) ∧ FX T pb b false K pc B w' (l ++ spT v.ws) { v with ws := spW v.ws } cl := by
  have h1 := h.quiet hT ((Upd.refl (fun _ => False) w).alloc (.cells #[.int .u32 (o : Int), .int .u32 (lc : Int)] 40))
  have hlt := h.lt
  have hcl0 := h.cl0
  subst hcl0
  have c4 := h.c4
  have c13 := h.c13
  have c0 := h.c0n
  have hm := bw_meth_wb b
  have ha := bw_ahead_wb b
  have H1 := Lib.hid h1
  by_cases hws : v.ws = 1
  · have e1 : spT v.ws = [32] := by simp [spT, hws]
    have e2 : spW v.ws = 2 := by simp [spW, hws]
    rw [e1, e2]
    rw [hws] at c13
    have HW := Lib.hid (n_wb hT hok h1 32 (x := 32) rfl (by omega))
    clear h h1 hl e1 e2 hws
    go_enter Tryz.func71, Tryz.ntmps71
    go_wp2_with (go_at_call 242; refine HW.out.mono ?_)
    rintro e w1 ⟨rfl, h2⟩
    have d13 := h2.c13
    have f13 := h2.fz 13
    have H2 := Lib.hid (h2.setc hT (i := 13) (val := .int .u8 2) { v with ws := 2 } (fun _ _ => rfl) rfl)
    clear h2
    go_wp2_with fail
    go_loopg [] 0 (fun _ wx => FX T pb b false K pc B wx (l ++ [32]) { v with ws := 2 } false)
    case atStart => exact H2.out
    case round =>
      have d3 := hrel.c3n
      have H3 := Lib.hid (hrel.quiet hT (Upd.refl (fun _ => False) wr).drew)
      clear hrel
      go_wp2_with fail
      go_region
      go_wp2_with fail
      go_end0
      exact ⟨rfl, H3.out⟩
  · have e1 : spT v.ws = [] := by simp [spT, hws]
    have e2 : spW v.ws = v.ws := by simp [spW, hws]
    rw [e1, e2, List.append_nil]
    have hwsI : ((v.ws : Int) == 1) = false := by rw [beq_eq_false_iff_ne]; omega
    clear h h1 hl e1 e2 hws
    go_enter Tryz.func71, Tryz.ntmps71
    go_wp2_with fail
    go_loopg [] 0 (fun _ wx => FX T pb b false K pc B wx l v false)
    case atStart => exact H1.out
    case round =>
      have d3 := hrel.c3n
      have H3 := Lib.hid (hrel.quiet hT (Upd.refl (fun _ => False) wr).drew)
      clear hrel
      go_wp2_with fail
      go_region
      go_wp2_with fail
      go_end0
      exact ⟨rfl, H3.out⟩

set_option maxRecDepth 100000 in
set_option maxHeartbeats 2000000 in
theorem n_writeLit0 (hT : TOk T) (hok : (∀ c, T.okb c = true) ∧ K ≤ LIM) (h : FX T pb b false K pc B w l v cl) (t : ByteArray) (h9 : ∀ c ∈ t.data.toList, c ≠ 9) (hl : l.length + t.size ≤ LIM) :
    Calls Tryz.prog 103 #[.pointer (some ⟨pb, 0, none⟩), .string t] w fun e w' => e = .returned (.tuple #[]) ∧ FX T pb b false K pc B w' (l ++ t.data.toList) v (clOf false cl t.data.toList) := by
  have c0 := h.c0n
  have hta := fun w => asrt_other (P := Tryz.prog) Tryz.underlying276 (by kernel_rfl) (t := 71) (by decide) 84 (.pointer (some ⟨b, 0, none⟩)) w
  have HC := Lib.hid (zz_contains_no t 9 h9 (by unfold LIM at hl; omega) w)
  have HW := Lib.hid (n_ws hT hok h t hl)
  have hm := bw_meth_ws b
  have ha := bw_ahead_ws b
  clear h h9 hl
  go_enter Tryz.func103, Tryz.ntmps103
  go_wp2_with (first
    | (go_at_call 143; refine HC.out.mono ?_; rintro e w1 ⟨rfl, rfl⟩)
    | (go_at_call 243; refine HW.out.mono ?_))
  rintro e w1 ⟨rfl, h1⟩
  have H1 := Lib.hid h1
  clear h1
  go_wp2
  go_end0
  exact ⟨rfl, H1.out⟩

set_option maxRecDepth 100000 in
set_option maxHeartbeats 4000000 in
theorem n_writeLit1 (hT : TOk T) (hok : (∀ c, T.okb c = true) ∧ K ≤ LIM) (h : FX T pb b false K pc B w l v cl) (t : ByteArray) (h9 : 9 ∈ t.data.toList) (hl : l.length + t.size + 2 ≤ LIM) :
    Calls Tryz.prog 103 #[.pointer (some ⟨pb, 0, none⟩), .string t] w fun e w' => e = .returned (.tuple #[]) ∧ FX T pb b false K pc B w' (l ++ ([255] ++ t.data.toList ++ [255])) v (clOf false cl ([255] ++ t.data.toList ++ [255])) := by
  have c0 := h.c0n
  have hta := fun w => asrt_other (P := Tryz.prog) Tryz.underlying276 (by kernel_rfl) (t := 71) (by decide) 84 (.pointer (some ⟨b, 0, none⟩)) w
  have HC := Lib.hid (zz_contains_yes t 9 h9 (by unfold LIM at hl; omega) w)
  have HW1 := Lib.hid (n_wb hT hok h 255 (x := 255) rfl (by omega))
  have HL := Lib.hid hl
  have hts : t.data.toList.length = t.size := rfl
  have HTs := Lib.hid hts
  have hm := bw_meth_ws b
  have ha := bw_ahead_ws b
  have hm2 := bw_meth_wb b
  have ha2 := bw_ahead_wb b
  clear h h9 hl hts
  go_enter_defers Tryz.func103, Tryz.ntmps103
  go_wp2_with (first
    | (go_at_call 143; refine HC.out.mono ?_; rintro e w1 ⟨rfl, rfl⟩)
    | (go_at_call 242; refine HW1.out.mono ?_; rintro e w1 ⟨rfl, h1⟩
       have d0 := h1.c0n
       have HW2 := Lib.hid (n_ws hT hok h1 t (by have := HL.out; rw [List.length_append, List.length_singleton]; omega))
       clear h1 HW1)
    | (go_at_call 243; refine HW2.out.mono ?_; rintro e w2 ⟨rfl, h2⟩; have H2 := Lib.hid h2; clear h2 HW2))
  refine leaves_cons (f := 242) (args := #[.pointer (some ⟨b, 0, none⟩), .int .u8 255]) (by simp) (by simp [go_sem, hm2]) ?_
  refine (n_wbd hT hok H2.out 255 (x := 255) rfl (by have h1 := HL.out; have h2 := HTs.out; simp only [List.length_append, List.length_singleton]; omega)).mono ?_
  rintro e u' w3 ⟨rfl, rfl, h3⟩
  exact ⟨_, results_none rfl _ _ _, rfl, h3.cast (l' := l ++ ([255] ++ t.data.toList ++ [255])) (by simp) rfl (cl' := clOf false cl ([255] ++ t.data.toList ++ [255])) (by rw [clOf_append, clOf_append])⟩

end
end Go.Proofs.YtmdkpihlhdjjaaaGreatFmt
