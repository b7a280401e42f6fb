/-
  The Printer in use: closingParen.
-/
import Derived.Test.YtmdkpihlhdjjaaaGreatFmtKVh
namespace Go.Proofs.YtmdkpihlhdjjaaaGreatFmt
open Go.RowKit

section
variable {T : Sink} {pb b : Nat} {tv : Value} {B : Base} {w : World} {l : List UInt8} {v : VS}

theorem mRp_ws (v : VS) (n L : Nat) : mRp { v with ws := n } L = mRp v L := rfl
theorem sRp_ws (v : VS) (n L : Nat) : sRp { v with ws := n } L = sRp v L := by
  have h : ({ sNls { v with ws := n } L with ws := 1 } : VS) = { sNls v L with ws := 1 } := by
    have h2 : wantsN { v with ws := n } L false = wantsN v L false := rfl
    have h3 : sIndent (sNl { v with ws := n } L) = sIndent (sNl v L) := rfl
    unfold sNls
    rw [h2, h3]
    cases h1 : v.fl
    · cases h4 : wantsN v L false
      · simp [h1]
      · simp
    · simp
  unfold sRp
  rw [h]

/-- What endsWithRparen says of the statement, where it is asked. -/
structure EndsAt (w : World) (pb : Nat) (sa : Option Addr) (r : Bool) : Prop where
  ex : ∃ g x, sa = some ⟨g, 0, none⟩ ∧ g ≠ pb ∧ w.cell? ⟨g, 0, none⟩ = some (.pointer x) ∧
    ∀ W, Upd (fun k => k = pb) w W → Calls Tryz.prog 137 #[.iface 104 (.pointer x)] W fun e w' => e = .returned (.bool r) ∧ Upd (fun _ => False) W w'

/-- The last steps. -/
def clW (sp : Bool) : Nat := if sp then 1 else 0
theorem clW_T (sp : Bool) : spT (clW sp) = if sp then [32] else [] := by cases sp <;> rfl


set_option maxRecDepth 100000 in
set_option maxHeartbeats 8000000 in
theorem v_closingParen (hT : TOk T) (h : PX T pb b tv B w l v) {sa la : Option Addr} {sn sc ln lcp : Nat} {r : Bool} (o1 lc1 o2 lc2 : Nat) (h1 : lc1 < 4294967296) (h2 : lc2 < 4294967296)
    (hs : ln = 0 → sn = 1 → EndsAt w pb sa r) (hsn : sn ≤ 1099511627776) (hln : ln ≤ 1099511627776)
    (hk : ∀ c ∈ mIndent v, T.okb c = true) (hkl : v.k * v.lv ≤ 4294967296) (hlv : v.lv ≤ 4294967296) (hvn : v.ln ≤ 4294967296) (hl : l.length + (mIndent v).length + 4 ≤ LIM) :
    Calls Tryz.prog 79 #[.pointer (some ⟨pb, 0, none⟩), .slice sa sn sc, .slice la ln lcp, posV o1 lc1, posV o2 lc2] w fun e w' => e = .returned (.tuple #[]) ∧
      PX T pb b tv B w' (l ++ (if decide (ln = 0) && decide (sn = 1) && r && (v.si || decide (lc1 / 16384 = lc2 / 16384)) then [32] else []) ++ mRp v (lc2 / 16384) ++ [41]) (sRp v (lc2 / 16384)) := by
  obtain ⟨sp, hsp⟩ : ∃ sp, sp = (decide (ln = 0) && decide (sn = 1) && r && (v.si || decide (lc1 / 16384 = lc2 / 16384))) := ⟨_, rfl⟩
  rw [← hsp]
  have hW2 := h.quiet hT (((Upd.refl (fun _ => False) w).alloc (.cells #[.int .u32 (o1 : Int), .int .u32 (lc1 : Int)] 40)).alloc (.cells #[.int .u32 (o2 : Int), .int .u32 (lc2 : Int)] 40))
  have c13 := hW2.c13
  have f13 := hW2.fz 13
  have hlt := h.lt
  have c13w := h.c13
  have f13w := h.fz 13
  clear hW2
  have h0 := h.setc hT (i := 13) (val := .int .u8 0) { v with ws := 0 } (fun _ => rfl) rfl
  have hz0 : (w.setCell ⟨pb, 13, none⟩ (.int .u8 0)).heap.size = w.heap.size := by simp
  have hu2 : Upd (fun _ => False) (w.setCell ⟨pb, 13, none⟩ (.int .u8 0)) (((w.setCell ⟨pb, 13, none⟩ (.int .u8 0)).alloc (.cells #[.int .u32 (o1 : Int), .int .u32 (lc1 : Int)] 40)).alloc (.cells #[.int .u32 (o2 : Int), .int .u32 (lc2 : Int)] 40)) := ((Upd.refl _ _).alloc _).alloc _
  obtain ⟨B', hp0, hsub, hnew⟩ := h0.base hT hu2
  have hx1 := hnew w.heap.size (.cells #[.int .u32 (o1 : Int), .int .u32 (lc1 : Int)] 40 (0, 0)) (by omega) (by rw [← hz0]; exact heap_alloc2_old _ _ _)
  have hx2 := hnew (w.heap.size + 1) (.cells #[.int .u32 (o2 : Int), .int .u32 (lc2 : Int)] 40 (0, 0)) (by omega) (by rw [← hz0]; exact heap_alloc2_new _ _ _)
  have hq0 : Upd (fun k => k = pb) w (((w.setCell ⟨pb, 13, none⟩ (.int .u8 0)).alloc (.cells #[.int .u32 (o1 : Int), .int .u32 (lc1 : Int)] 40)).alloc (.cells #[.int .u32 (o2 : Int), .int .u32 (lc2 : Int)] 40)) := (((Upd.refl (fun k => k = pb) w).setCell (p := ⟨pb, 13, none⟩) (.inl rfl) _).alloc _).alloc _
  have x0 : (((w.setCell ⟨pb, 13, none⟩ (.int .u8 0)).alloc (.cells #[.int .u32 (o1 : Int), .int .u32 (lc1 : Int)] 40)).alloc (.cells #[.int .u32 (o2 : Int), .int .u32 (lc2 : Int)] 40)).cell? ⟨w.heap.size, 0, none⟩ = some (.int .u32 (o1 : Int)) := cell_at (hp0.at hx1) 0
  have x1 : (((w.setCell ⟨pb, 13, none⟩ (.int .u8 0)).alloc (.cells #[.int .u32 (o1 : Int), .int .u32 (lc1 : Int)] 40)).alloc (.cells #[.int .u32 (o2 : Int), .int .u32 (lc2 : Int)] 40)).cell? ⟨w.heap.size, 1, none⟩ = some (.int .u32 (lc1 : Int)) := cell_at (hp0.at hx1) 1
  have y0 : (((w.setCell ⟨pb, 13, none⟩ (.int .u8 0)).alloc (.cells #[.int .u32 (o1 : Int), .int .u32 (lc1 : Int)] 40)).alloc (.cells #[.int .u32 (o2 : Int), .int .u32 (lc2 : Int)] 40)).cell? ⟨w.heap.size + 1, 0, none⟩ = some (.int .u32 (o2 : Int)) := cell_at (hp0.at hx2) 0
  have y1 : (((w.setCell ⟨pb, 13, none⟩ (.int .u8 0)).alloc (.cells #[.int .u32 (o1 : Int), .int .u32 (lc1 : Int)] 40)).alloc (.cells #[.int .u32 (o2 : Int), .int .u32 (lc2 : Int)] 40)).cell? ⟨w.heap.size + 1, 1, none⟩ = some (.int .u32 (lc2 : Int)) := cell_at (hp0.at hx2) 1
  have c11 := hp0.c11
  have HX := Lib.hid (And.intro hx1 hx2)
  have HSub := Lib.hid hsub
  have HB := Lib.hid (And.intro h1 (And.intro h2 (And.intro hk (And.intro hkl (And.intro hlv (And.intro hvn hl))))))
  have HP0 := Lib.hid hp0
  have HQ0 := Lib.hid hq0
  have hsnI : (sn : Int) ≤ 1099511627776 := by omega
  have hlnI : (ln : Int) ≤ 1099511627776 := by omega
  clear h h0 hz0 hsub hnew hx1 hx2 hu2 hp0 hq0 h1 h2 hk hkl hlv hvn hl hsn hln
  have hcase : ln ≠ 0 ∨ (ln = 0 ∧ sn ≠ 1) ∨ (ln = 0 ∧ sn = 1 ∧ r = false) ∨ (ln = 0 ∧ sn = 1 ∧ r = true ∧ v.si = true) ∨ (ln = 0 ∧ sn = 1 ∧ r = true ∧ v.si = false ∧ lc1 / 16384 = lc2 / 16384) ∨ (ln = 0 ∧ sn = 1 ∧ r = true ∧ v.si = false ∧ lc1 / 16384 ≠ lc2 / 16384) := by
    cases r <;> cases v.si <;> simp <;> omega
  rcases hcase with g1 | ⟨rfl, g1⟩ | ⟨rfl, rfl, rfl⟩ | ⟨rfl, rfl, rfl, g1⟩ | ⟨rfl, rfl, rfl, g1, g2⟩ | ⟨rfl, rfl, rfl, g1, g2⟩

  · have hspf : sp = false := by simp [hsp, g1]
    have g1I : ((ln : Int) == 0) = false := by rw [beq_eq_false_iff_ne]; omega
    subst hspf
    clear g1 hs hsp c11 x0 x1 y0 y1
    go_enter Tryz.func79, Tryz.ntmps79
    go_wp2_with fail
    refine wp_region_held_drew (S := fun W => True) (by kernel_rfl) trivial (fun hHeld => ?_)
    refine wpAnyH_take (i := 0) (v := ?vz10) rfl (by kernel_rfl) (by kernel_rfl) (by kernel_rfl) (fun _ _ _ h => h) (Or.inl ⟨by rfl, ?hz10⟩) (by assumption) ?rz10
    case hz10 => (intro w hSw; (try dsimp only at hSw); go_simp; try with_reducible rfl)
    try simp only [List.getElem_toArray, List.getElem_cons_zero, Act.put, List.setIfInBounds_toArray, List.set_cons_zero, List.set_cons_succ]
    refine wpAnyH_take (i := 1) (v := ?vz11) rfl (by kernel_rfl) (by kernel_rfl) (by kernel_rfl) (fun _ _ _ h => h) (Or.inl ⟨by rfl, ?hz11⟩) (by assumption) ?rz11
    case hz11 => (intro w hSw; (try dsimp only at hSw); go_simp; try with_reducible rfl)
    try simp only [List.getElem_toArray, List.getElem_cons_zero, List.getElem_cons_succ, Act.put, List.setIfInBounds_toArray, List.set_cons_zero, List.set_cons_succ]
    refine wpAnyH_take (i := 2) (v := ?vz12) rfl (by kernel_rfl) (by kernel_rfl) (by kernel_rfl) (fun _ _ _ h => h) (Or.inl ⟨by rfl, ?hz12⟩) (by assumption) ?rz12
    case hz12 => (intro w hSw; (try dsimp only at hSw); go_simp; try with_reducible rfl)
    try simp only [List.getElem_toArray, List.getElem_cons_zero, List.getElem_cons_succ, Act.put, List.setIfInBounds_toArray, List.set_cons_zero, List.set_cons_succ]
    refine wpAnyH_take (i := 3) (v := ?vz13) rfl (by kernel_rfl) (by kernel_rfl) (by kernel_rfl) (fun _ _ _ h => h) (Or.inl ⟨by rfl, ?hz13⟩) (by assumption) ?rz13
    case hz13 => (intro w hSw; (try dsimp only at hSw); go_simp; try with_reducible rfl)
    try simp only [List.getElem_toArray, List.getElem_cons_zero, List.getElem_cons_succ, Act.put, List.setIfInBounds_toArray, List.set_cons_zero, List.set_cons_succ]
    refine wpAnyH_take (i := 4) (v := undef) rfl (by kernel_rfl) (by kernel_rfl) (by kernel_rfl) (fun _ _ _ h => h) (Or.inr ⟨by rfl, rfl⟩) (by assumption) ?_
    try simp only [List.getElem_toArray, List.getElem_cons_zero, List.getElem_cons_succ, Act.put, List.setIfInBounds_toArray, List.set_cons_zero, List.set_cons_succ]
    refine wpAnyH_take (i := 5) (v := undef) rfl (by kernel_rfl) (by kernel_rfl) (by kernel_rfl) (fun _ _ _ h => h) (Or.inr ⟨by rfl, rfl⟩) (by assumption) ?_
    try simp only [List.getElem_toArray, List.getElem_cons_zero, List.getElem_cons_succ, Act.put, List.setIfInBounds_toArray, List.set_cons_zero, List.set_cons_succ]
    refine wpAnyH_take (i := 6) (v := undef) rfl (by kernel_rfl) (by kernel_rfl) (by kernel_rfl) (fun _ _ _ h => h) (Or.inr ⟨by rfl, rfl⟩) (by assumption) ?_
    try simp only [List.getElem_toArray, List.getElem_cons_zero, List.getElem_cons_succ, Act.put, List.setIfInBounds_toArray, List.set_cons_zero, List.set_cons_succ]
    refine wpAnyH_take (i := 7) (v := ?vz17) rfl (by kernel_rfl) (by kernel_rfl) (by kernel_rfl) (fun _ _ _ h => h) (Or.inl ⟨by rfl, ?hz17⟩) (by assumption) ?rz17
    case hz17 => (intro w hSw; (try dsimp only at hSw); go_simp; try with_reducible rfl)
    try simp only [List.getElem_toArray, List.getElem_cons_zero, List.getElem_cons_succ, Act.put, List.setIfInBounds_toArray, List.set_cons_zero, List.set_cons_succ]
    refine wpAnyH_take (i := 8) (v := ?vz18) rfl (by kernel_rfl) (by kernel_rfl) (by kernel_rfl) (fun _ _ _ h => h) (Or.inl ⟨by rfl, ?hz18⟩) (by assumption) ?rz18
    case hz18 => (intro w hSw; (try dsimp only at hSw); go_simp; try with_reducible rfl)
    try simp only [List.getElem_toArray, List.getElem_cons_zero, List.getElem_cons_succ, Act.put, List.setIfInBounds_toArray, List.set_cons_zero, List.set_cons_succ]
    refine wpAnyH_take (i := 9) (v := undef) rfl (by kernel_rfl) (by kernel_rfl) (by kernel_rfl) (fun _ _ _ h => h) (Or.inr ⟨by rfl, rfl⟩) (by assumption) ?_
    try simp only [List.getElem_toArray, List.getElem_cons_zero, List.getElem_cons_succ, Act.put, List.setIfInBounds_toArray, List.set_cons_zero, List.set_cons_succ]
    refine wpAnyH_take (i := 10) (v := undef) rfl (by kernel_rfl) (by kernel_rfl) (by kernel_rfl) (fun _ _ _ h => h) (Or.inr ⟨by rfl, rfl⟩) (by assumption) ?_
    try simp only [List.getElem_toArray, List.getElem_cons_zero, List.getElem_cons_succ, Act.put, List.setIfInBounds_toArray, List.set_cons_zero, List.set_cons_succ]
    refine wpAnyH_take (i := 11) (v := undef) rfl (by kernel_rfl) (by kernel_rfl) (by kernel_rfl) (fun _ _ _ h => h) (Or.inr ⟨by rfl, rfl⟩) (by assumption) ?_
    try simp only [List.getElem_toArray, List.getElem_cons_zero, List.getElem_cons_succ, Act.put, List.setIfInBounds_toArray, List.set_cons_zero, List.set_cons_succ]
    refine wpAnyH_take (i := 12) (v := undef) rfl (by kernel_rfl) (by kernel_rfl) (by kernel_rfl) (fun _ _ _ h => h) (Or.inr ⟨by rfl, rfl⟩) (by assumption) ?_
    try simp only [List.getElem_toArray, List.getElem_cons_zero, List.getElem_cons_succ, Act.put, List.setIfInBounds_toArray, List.set_cons_zero, List.set_cons_succ]
    refine wpAnyH_take (i := 13) (v := undef) rfl (by kernel_rfl) (by kernel_rfl) (by kernel_rfl) (fun _ _ _ h => h) (Or.inr ⟨by rfl, rfl⟩) (by assumption) ?_
    try simp only [List.getElem_toArray, List.getElem_cons_zero, List.getElem_cons_succ, Act.put, List.setIfInBounds_toArray, List.set_cons_zero, List.set_cons_succ]
    refine wpAnyH_take (i := 14) (v := ?vz114) rfl (by kernel_rfl) (by kernel_rfl) (by kernel_rfl) (fun _ _ _ h => h) (Or.inl ⟨by rfl, ?hz114⟩) (by assumption) ?rz114
    case hz114 => (intro w hSw; (try dsimp only at hSw); go_simp; try with_reducible rfl)
    try simp only [List.getElem_toArray, List.getElem_cons_zero, List.getElem_cons_succ, Act.put, List.setIfInBounds_toArray, List.set_cons_zero, List.set_cons_succ]
    refine wpAnyH_take (i := 15) (v := ?vz115) rfl (by kernel_rfl) (by kernel_rfl) (by kernel_rfl) (fun _ _ _ h => h) (Or.inl ⟨by rfl, ?hz115⟩) (by assumption) ?rz115
    case hz115 => (intro w hSw; (try dsimp only at hSw); go_simp; try with_reducible rfl)
    try simp only [List.getElem_toArray, List.getElem_cons_zero, List.getElem_cons_succ, Act.put, List.setIfInBounds_toArray, List.set_cons_zero, List.set_cons_succ]
    refine wpAnyH_take (i := 16) (v := undef) rfl (by kernel_rfl) (by kernel_rfl) (by kernel_rfl) (fun _ _ _ h => h) (Or.inr ⟨by rfl, rfl⟩) (by assumption) ?_
    try simp only [List.getElem_toArray, List.getElem_cons_zero, List.getElem_cons_succ, Act.put, List.setIfInBounds_toArray, List.set_cons_zero, List.set_cons_succ]
    refine wpAnyH_take (i := 17) (v := undef) rfl (by kernel_rfl) (by kernel_rfl) (by kernel_rfl) (fun _ _ _ h => h) (Or.inr ⟨by rfl, rfl⟩) (by assumption) ?_
    try simp only [List.getElem_toArray, List.getElem_cons_zero, List.getElem_cons_succ, Act.put, List.setIfInBounds_toArray, List.set_cons_zero, List.set_cons_succ]
    refine wpAnyH_take (i := 18) (v := undef) rfl (by kernel_rfl) (by kernel_rfl) (by kernel_rfl) (fun _ _ _ h => h) (Or.inr ⟨by rfl, rfl⟩) (by assumption) ?_
    try simp only [List.getElem_toArray, List.getElem_cons_zero, List.getElem_cons_succ, Act.put, List.setIfInBounds_toArray, List.set_cons_zero, List.set_cons_succ]
    refine wpAnyH_take (i := 19) (v := undef) rfl (by kernel_rfl) (by kernel_rfl) (by kernel_rfl) (fun _ _ _ h => h) (Or.inr ⟨by rfl, rfl⟩) (by assumption) ?_
    try simp only [List.getElem_toArray, List.getElem_cons_zero, List.getElem_cons_succ, Act.put, List.setIfInBounds_toArray, List.set_cons_zero, List.set_cons_succ]
    refine wpAnyH_take (i := 20) (v := undef) rfl (by kernel_rfl) (by kernel_rfl) (by kernel_rfl) (fun _ _ _ h => h) (Or.inr ⟨by rfl, rfl⟩) (by assumption) ?_
    try simp only [List.getElem_toArray, List.getElem_cons_zero, List.getElem_cons_succ, Act.put, List.setIfInBounds_toArray, List.set_cons_zero, List.set_cons_succ]
    refine wpAnyH_take (i := 21) (v := undef) rfl (by kernel_rfl) (by kernel_rfl) (by kernel_rfl) (fun _ _ _ h => h) (Or.inr ⟨by rfl, rfl⟩) (by assumption) ?_
    try simp only [List.getElem_toArray, List.getElem_cons_zero, List.getElem_cons_succ, Act.put, List.setIfInBounds_toArray, List.set_cons_zero, List.set_cons_succ]
    refine wpAnyH_take (i := 22) (v := undef) rfl (by kernel_rfl) (by kernel_rfl) (by kernel_rfl) (fun _ _ _ h => h) (Or.inr ⟨by rfl, rfl⟩) (by assumption) ?_
    try simp only [List.getElem_toArray, List.getElem_cons_zero, List.getElem_cons_succ, Act.put, List.setIfInBounds_toArray, List.set_cons_zero, List.set_cons_succ]
    refine wpAnyH_take (i := 23) (v := undef) rfl (by kernel_rfl) (by kernel_rfl) (by kernel_rfl) (fun _ _ _ h => h) (Or.inr ⟨by rfl, rfl⟩) (by assumption) ?_
    try simp only [List.getElem_toArray, List.getElem_cons_zero, List.getElem_cons_succ, Act.put, List.setIfInBounds_toArray, List.set_cons_zero, List.set_cons_succ]
    refine wpAnyH_take (i := 24) (v := undef) rfl (by kernel_rfl) (by kernel_rfl) (by kernel_rfl) (fun _ _ _ h => h) (Or.inr ⟨by rfl, rfl⟩) (by assumption) ?_
    try simp only [List.getElem_toArray, List.getElem_cons_zero, List.getElem_cons_succ, Act.put, List.setIfInBounds_toArray, List.set_cons_zero, List.set_cons_succ]
    refine wpAnyH_take (i := 25) (v := undef) rfl (by kernel_rfl) (by kernel_rfl) (by kernel_rfl) (fun _ _ _ h => h) (Or.inr ⟨by rfl, rfl⟩) (by assumption) ?_
    try simp only [List.getElem_toArray, List.getElem_cons_zero, List.getElem_cons_succ, Act.put, List.setIfInBounds_toArray, List.set_cons_zero, List.set_cons_succ]
    refine wpAnyH_take (i := 26) (v := undef) rfl (by kernel_rfl) (by kernel_rfl) (by kernel_rfl) (fun _ _ _ h => h) (Or.inr ⟨by rfl, rfl⟩) (by assumption) ?_
    try simp only [List.getElem_toArray, List.getElem_cons_zero, List.getElem_cons_succ, Act.put, List.setIfInBounds_toArray, List.set_cons_zero, List.set_cons_succ]
    refine wpAnyH_take (i := 27) (v := ?vz127) rfl (by kernel_rfl) (by kernel_rfl) (by kernel_rfl) (fun _ _ _ h => h) (Or.inl ⟨by rfl, ?hz127⟩) (by assumption) ?rz127
    case hz127 => (intro w hSw; (try dsimp only at hSw); go_simp; try with_reducible rfl)
    try simp only [List.getElem_toArray, List.getElem_cons_zero, List.getElem_cons_succ, Act.put, List.setIfInBounds_toArray, List.set_cons_zero, List.set_cons_succ]
    refine wpAnyH_done (by kernel_rfl) ?_ _
    have H2 := Lib.hid (HP0.out.quiet hT (Upd.refl (fun _ => False) _).drew)
    have hy0 : (((w.setCell ⟨pb, 13, none⟩ (.int .u8 0)).alloc (.cells #[.int .u32 (o1 : Int), .int .u32 (lc1 : Int)] 40)).alloc (.cells #[.int .u32 (o2 : Int), .int .u32 (lc2 : Int)] 40)).drew.cell? ⟨w.heap.size + 1, 0, none⟩ = some (.int .u32 (o2 : Int)) := cell_at (H2.out.at HX.out.2) 0
    have hy1 : (((w.setCell ⟨pb, 13, none⟩ (.int .u8 0)).alloc (.cells #[.int .u32 (o1 : Int), .int .u32 (lc1 : Int)] 40)).alloc (.cells #[.int .u32 (o2 : Int), .int .u32 (lc2 : Int)] 40)).drew.cell? ⟨w.heap.size + 1, 1, none⟩ = some (.int .u32 (lc2 : Int)) := cell_at (H2.out.at HX.out.2) 1
    have HSp := Lib.hid (v_spacePad hT H2.out o2 lc2 (by have := HB.out.2.2.2.2.2.2; omega))
    go_wp2_with (go_at_call 71; refine HSp.out.mono ?_; rintro e v5 ⟨rfl, h5⟩
                 have z0 : v5.cell? ⟨w.heap.size + 1, 0, none⟩ = some (.int .u32 (o2 : Int)) := cell_at (h5.at HX.out.2) 0
                 have z1 : v5.cell? ⟨w.heap.size + 1, 1, none⟩ = some (.int .u32 (lc2 : Int)) := cell_at (h5.at HX.out.2) 1
                 have HRp := Lib.hid (v_rightParen hT h5 o2 lc2 HB.out.2.1 HB.out.2.2.1 HB.out.2.2.2.1 HB.out.2.2.2.2.1 HB.out.2.2.2.2.2.1 (by
                   have h1 := HB.out.2.2.2.2.2.2
                   have h2 := spT_len ({ v with ws := 0 } : VS).ws
                   rw [List.length_append]
                   show _ + (mIndent v).length + 3 ≤ _
                   omega))
                 clear h5)
    go_wp2_with (go_at_call 114; refine HRp.out.mono ?_; rintro e v6 ⟨rfl, h6⟩
                 have H6 := Lib.hid h6
                 clear h6)
    go_wp2_with fail
    go_end0
    refine ⟨rfl, HSub.out.back _ _ _ (H6.out.cast ?_ (sRp_ws v _ _))⟩
    simp [spT, mRp_ws]

  · have hspf : sp = false := by simp [hsp, g1]
    have g1I : ((sn : Int) == 1) = false := by rw [beq_eq_false_iff_ne]; omega
    subst hspf
    clear g1 hs hsp c11 x0 x1 y0 y1
    go_enter Tryz.func79, Tryz.ntmps79
    go_wp2_with fail
    refine wp_region_held_drew (S := fun W => True) (by kernel_rfl) trivial (fun hHeld => ?_)
    refine wpAnyH_take (i := 0) (v := ?vz20) rfl (by kernel_rfl) (by kernel_rfl) (by kernel_rfl) (fun _ _ _ h => h) (Or.inl ⟨by rfl, ?hz20⟩) (by assumption) ?rz20
    case hz20 => (intro w hSw; (try dsimp only at hSw); go_simp; try with_reducible rfl)
    try simp only [List.getElem_toArray, List.getElem_cons_zero, Act.put, List.setIfInBounds_toArray, List.set_cons_zero, List.set_cons_succ]
    refine wpAnyH_take (i := 1) (v := ?vz21) rfl (by kernel_rfl) (by kernel_rfl) (by kernel_rfl) (fun _ _ _ h => h) (Or.inl ⟨by rfl, ?hz21⟩) (by assumption) ?rz21
    case hz21 => (intro w hSw; (try dsimp only at hSw); go_simp; try with_reducible rfl)
    try simp only [List.getElem_toArray, List.getElem_cons_zero, List.getElem_cons_succ, Act.put, List.setIfInBounds_toArray, List.set_cons_zero, List.set_cons_succ]
    refine wpAnyH_take (i := 2) (v := ?vz22) rfl (by kernel_rfl) (by kernel_rfl) (by kernel_rfl) (fun _ _ _ h => h) (Or.inl ⟨by rfl, ?hz22⟩) (by assumption) ?rz22
    case hz22 => (intro w hSw; (try dsimp only at hSw); go_simp; try with_reducible rfl)
    try simp only [List.getElem_toArray, List.getElem_cons_zero, List.getElem_cons_succ, Act.put, List.setIfInBounds_toArray, List.set_cons_zero, List.set_cons_succ]
    refine wpAnyH_take (i := 3) (v := ?vz23) rfl (by kernel_rfl) (by kernel_rfl) (by kernel_rfl) (fun _ _ _ h => h) (Or.inl ⟨by rfl, ?hz23⟩) (by assumption) ?rz23
    case hz23 => (intro w hSw; (try dsimp only at hSw); go_simp; try with_reducible rfl)
    try simp only [List.getElem_toArray, List.getElem_cons_zero, List.getElem_cons_succ, Act.put, List.setIfInBounds_toArray, List.set_cons_zero, List.set_cons_succ]
    refine wpAnyH_take (i := 4) (v := ?vz24) rfl (by kernel_rfl) (by kernel_rfl) (by kernel_rfl) (fun _ _ _ h => h) (Or.inl ⟨by rfl, ?hz24⟩) (by assumption) ?rz24
    case hz24 => (intro w hSw; (try dsimp only at hSw); go_simp; try with_reducible rfl)
    try simp only [List.getElem_toArray, List.getElem_cons_zero, List.getElem_cons_succ, Act.put, List.setIfInBounds_toArray, List.set_cons_zero, List.set_cons_succ]
    refine wpAnyH_take (i := 5) (v := ?vz25) rfl (by kernel_rfl) (by kernel_rfl) (by kernel_rfl) (fun _ _ _ h => h) (Or.inl ⟨by rfl, ?hz25⟩) (by assumption) ?rz25
    case hz25 => (intro w hSw; (try dsimp only at hSw); go_simp; try with_reducible rfl)
    try simp only [List.getElem_toArray, List.getElem_cons_zero, List.getElem_cons_succ, Act.put, List.setIfInBounds_toArray, List.set_cons_zero, List.set_cons_succ]
    refine wpAnyH_take (i := 6) (v := ?vz26) rfl (by kernel_rfl) (by kernel_rfl) (by kernel_rfl) (fun _ _ _ h => h) (Or.inl ⟨by rfl, ?hz26⟩) (by assumption) ?rz26
    case hz26 => (intro w hSw; (try dsimp only at hSw); go_simp; try with_reducible rfl)
    try simp only [List.getElem_toArray, List.getElem_cons_zero, List.getElem_cons_succ, Act.put, List.setIfInBounds_toArray, List.set_cons_zero, List.set_cons_succ]
    refine wpAnyH_take (i := 7) (v := ?vz27) rfl (by kernel_rfl) (by kernel_rfl) (by kernel_rfl) (fun _ _ _ h => h) (Or.inl ⟨by rfl, ?hz27⟩) (by assumption) ?rz27
    case hz27 => (intro w hSw; (try dsimp only at hSw); go_simp; try with_reducible rfl)
    try simp only [List.getElem_toArray, List.getElem_cons_zero, List.getElem_cons_succ, Act.put, List.setIfInBounds_toArray, List.set_cons_zero, List.set_cons_succ]
    refine wpAnyH_take (i := 8) (v := ?vz28) rfl (by kernel_rfl) (by kernel_rfl) (by kernel_rfl) (fun _ _ _ h => h) (Or.inl ⟨by rfl, ?hz28⟩) (by assumption) ?rz28
    case hz28 => (intro w hSw; (try dsimp only at hSw); go_simp; try with_reducible rfl)
    try simp only [List.getElem_toArray, List.getElem_cons_zero, List.getElem_cons_succ, Act.put, List.setIfInBounds_toArray, List.set_cons_zero, List.set_cons_succ]
    refine wpAnyH_take (i := 9) (v := undef) rfl (by kernel_rfl) (by kernel_rfl) (by kernel_rfl) (fun _ _ _ h => h) (Or.inr ⟨by rfl, rfl⟩) (by assumption) ?_
    try simp only [List.getElem_toArray, List.getElem_cons_zero, List.getElem_cons_succ, Act.put, List.setIfInBounds_toArray, List.set_cons_zero, List.set_cons_succ]
    refine wpAnyH_take (i := 10) (v := undef) rfl (by kernel_rfl) (by kernel_rfl) (by kernel_rfl) (fun _ _ _ h => h) (Or.inr ⟨by rfl, rfl⟩) (by assumption) ?_
    try simp only [List.getElem_toArray, List.getElem_cons_zero, List.getElem_cons_succ, Act.put, List.setIfInBounds_toArray, List.set_cons_zero, List.set_cons_succ]
    refine wpAnyH_take (i := 11) (v := undef) rfl (by kernel_rfl) (by kernel_rfl) (by kernel_rfl) (fun _ _ _ h => h) (Or.inr ⟨by rfl, rfl⟩) (by assumption) ?_
    try simp only [List.getElem_toArray, List.getElem_cons_zero, List.getElem_cons_succ, Act.put, List.setIfInBounds_toArray, List.set_cons_zero, List.set_cons_succ]
    refine wpAnyH_take (i := 12) (v := undef) rfl (by kernel_rfl) (by kernel_rfl) (by kernel_rfl) (fun _ _ _ h => h) (Or.inr ⟨by rfl, rfl⟩) (by assumption) ?_
    try simp only [List.getElem_toArray, List.getElem_cons_zero, List.getElem_cons_succ, Act.put, List.setIfInBounds_toArray, List.set_cons_zero, List.set_cons_succ]
    refine wpAnyH_take (i := 13) (v := undef) rfl (by kernel_rfl) (by kernel_rfl) (by kernel_rfl) (fun _ _ _ h => h) (Or.inr ⟨by rfl, rfl⟩) (by assumption) ?_
    try simp only [List.getElem_toArray, List.getElem_cons_zero, List.getElem_cons_succ, Act.put, List.setIfInBounds_toArray, List.set_cons_zero, List.set_cons_succ]
    refine wpAnyH_take (i := 14) (v := ?vz214) rfl (by kernel_rfl) (by kernel_rfl) (by kernel_rfl) (fun _ _ _ h => h) (Or.inl ⟨by rfl, ?hz214⟩) (by assumption) ?rz214
    case hz214 => (intro w hSw; (try dsimp only at hSw); go_simp; try with_reducible rfl)
    try simp only [List.getElem_toArray, List.getElem_cons_zero, List.getElem_cons_succ, Act.put, List.setIfInBounds_toArray, List.set_cons_zero, List.set_cons_succ]
    refine wpAnyH_take (i := 15) (v := ?vz215) rfl (by kernel_rfl) (by kernel_rfl) (by kernel_rfl) (fun _ _ _ h => h) (Or.inl ⟨by rfl, ?hz215⟩) (by assumption) ?rz215
    case hz215 => (intro w hSw; (try dsimp only at hSw); go_simp; try with_reducible rfl)
    try simp only [List.getElem_toArray, List.getElem_cons_zero, List.getElem_cons_succ, Act.put, List.setIfInBounds_toArray, List.set_cons_zero, List.set_cons_succ]
    refine wpAnyH_take (i := 16) (v := undef) rfl (by kernel_rfl) (by kernel_rfl) (by kernel_rfl) (fun _ _ _ h => h) (Or.inr ⟨by rfl, rfl⟩) (by assumption) ?_
    try simp only [List.getElem_toArray, List.getElem_cons_zero, List.getElem_cons_succ, Act.put, List.setIfInBounds_toArray, List.set_cons_zero, List.set_cons_succ]
    refine wpAnyH_take (i := 17) (v := undef) rfl (by kernel_rfl) (by kernel_rfl) (by kernel_rfl) (fun _ _ _ h => h) (Or.inr ⟨by rfl, rfl⟩) (by assumption) ?_
    try simp only [List.getElem_toArray, List.getElem_cons_zero, List.getElem_cons_succ, Act.put, List.setIfInBounds_toArray, List.set_cons_zero, List.set_cons_succ]
    refine wpAnyH_take (i := 18) (v := undef) rfl (by kernel_rfl) (by kernel_rfl) (by kernel_rfl) (fun _ _ _ h => h) (Or.inr ⟨by rfl, rfl⟩) (by assumption) ?_
    try simp only [List.getElem_toArray, List.getElem_cons_zero, List.getElem_cons_succ, Act.put, List.setIfInBounds_toArray, List.set_cons_zero, List.set_cons_succ]
    refine wpAnyH_take (i := 19) (v := undef) rfl (by kernel_rfl) (by kernel_rfl) (by kernel_rfl) (fun _ _ _ h => h) (Or.inr ⟨by rfl, rfl⟩) (by assumption) ?_
    try simp only [List.getElem_toArray, List.getElem_cons_zero, List.getElem_cons_succ, Act.put, List.setIfInBounds_toArray, List.set_cons_zero, List.set_cons_succ]
    refine wpAnyH_take (i := 20) (v := undef) rfl (by kernel_rfl) (by kernel_rfl) (by kernel_rfl) (fun _ _ _ h => h) (Or.inr ⟨by rfl, rfl⟩) (by assumption) ?_
    try simp only [List.getElem_toArray, List.getElem_cons_zero, List.getElem_cons_succ, Act.put, List.setIfInBounds_toArray, List.set_cons_zero, List.set_cons_succ]
    refine wpAnyH_take (i := 21) (v := undef) rfl (by kernel_rfl) (by kernel_rfl) (by kernel_rfl) (fun _ _ _ h => h) (Or.inr ⟨by rfl, rfl⟩) (by assumption) ?_
    try simp only [List.getElem_toArray, List.getElem_cons_zero, List.getElem_cons_succ, Act.put, List.setIfInBounds_toArray, List.set_cons_zero, List.set_cons_succ]
    refine wpAnyH_take (i := 22) (v := undef) rfl (by kernel_rfl) (by kernel_rfl) (by kernel_rfl) (fun _ _ _ h => h) (Or.inr ⟨by rfl, rfl⟩) (by assumption) ?_
    try simp only [List.getElem_toArray, List.getElem_cons_zero, List.getElem_cons_succ, Act.put, List.setIfInBounds_toArray, List.set_cons_zero, List.set_cons_succ]
    refine wpAnyH_take (i := 23) (v := undef) rfl (by kernel_rfl) (by kernel_rfl) (by kernel_rfl) (fun _ _ _ h => h) (Or.inr ⟨by rfl, rfl⟩) (by assumption) ?_
    try simp only [List.getElem_toArray, List.getElem_cons_zero, List.getElem_cons_succ, Act.put, List.setIfInBounds_toArray, List.set_cons_zero, List.set_cons_succ]
    refine wpAnyH_take (i := 24) (v := undef) rfl (by kernel_rfl) (by kernel_rfl) (by kernel_rfl) (fun _ _ _ h => h) (Or.inr ⟨by rfl, rfl⟩) (by assumption) ?_
    try simp only [List.getElem_toArray, List.getElem_cons_zero, List.getElem_cons_succ, Act.put, List.setIfInBounds_toArray, List.set_cons_zero, List.set_cons_succ]
    refine wpAnyH_take (i := 25) (v := undef) rfl (by kernel_rfl) (by kernel_rfl) (by kernel_rfl) (fun _ _ _ h => h) (Or.inr ⟨by rfl, rfl⟩) (by assumption) ?_
    try simp only [List.getElem_toArray, List.getElem_cons_zero, List.getElem_cons_succ, Act.put, List.setIfInBounds_toArray, List.set_cons_zero, List.set_cons_succ]
    refine wpAnyH_take (i := 26) (v := undef) rfl (by kernel_rfl) (by kernel_rfl) (by kernel_rfl) (fun _ _ _ h => h) (Or.inr ⟨by rfl, rfl⟩) (by assumption) ?_
    try simp only [List.getElem_toArray, List.getElem_cons_zero, List.getElem_cons_succ, Act.put, List.setIfInBounds_toArray, List.set_cons_zero, List.set_cons_succ]
    refine wpAnyH_take (i := 27) (v := ?vz227) rfl (by kernel_rfl) (by kernel_rfl) (by kernel_rfl) (fun _ _ _ h => h) (Or.inl ⟨by rfl, ?hz227⟩) (by assumption) ?rz227
    case hz227 => (intro w hSw; (try dsimp only at hSw); go_simp; try with_reducible rfl)
    try simp only [List.getElem_toArray, List.getElem_cons_zero, List.getElem_cons_succ, Act.put, List.setIfInBounds_toArray, List.set_cons_zero, List.set_cons_succ]
    refine wpAnyH_done (by kernel_rfl) ?_ _
    have H2 := Lib.hid (HP0.out.quiet hT (Upd.refl (fun _ => False) _).drew)
    have hy0 : (((w.setCell ⟨pb, 13, none⟩ (.int .u8 0)).alloc (.cells #[.int .u32 (o1 : Int), .int .u32 (lc1 : Int)] 40)).alloc (.cells #[.int .u32 (o2 : Int), .int .u32 (lc2 : Int)] 40)).drew.cell? ⟨w.heap.size + 1, 0, none⟩ = some (.int .u32 (o2 : Int)) := cell_at (H2.out.at HX.out.2) 0
    have hy1 : (((w.setCell ⟨pb, 13, none⟩ (.int .u8 0)).alloc (.cells #[.int .u32 (o1 : Int), .int .u32 (lc1 : Int)] 40)).alloc (.cells #[.int .u32 (o2 : Int), .int .u32 (lc2 : Int)] 40)).drew.cell? ⟨w.heap.size + 1, 1, none⟩ = some (.int .u32 (lc2 : Int)) := cell_at (H2.out.at HX.out.2) 1
    have HSp := Lib.hid (v_spacePad hT H2.out o2 lc2 (by have := HB.out.2.2.2.2.2.2; omega))
    go_wp2_with (go_at_call 71; refine HSp.out.mono ?_; rintro e v5 ⟨rfl, h5⟩
                 have z0 : v5.cell? ⟨w.heap.size + 1, 0, none⟩ = some (.int .u32 (o2 : Int)) := cell_at (h5.at HX.out.2) 0
                 have z1 : v5.cell? ⟨w.heap.size + 1, 1, none⟩ = some (.int .u32 (lc2 : Int)) := cell_at (h5.at HX.out.2) 1
                 have HRp := Lib.hid (v_rightParen hT h5 o2 lc2 HB.out.2.1 HB.out.2.2.1 HB.out.2.2.2.1 HB.out.2.2.2.2.1 HB.out.2.2.2.2.2.1 (by
                   have h1 := HB.out.2.2.2.2.2.2
                   have h2 := spT_len ({ v with ws := 0 } : VS).ws
                   rw [List.length_append]
                   show _ + (mIndent v).length + 3 ≤ _
                   omega))
                 clear h5)
    go_wp2_with (go_at_call 114; refine HRp.out.mono ?_; rintro e v6 ⟨rfl, h6⟩
                 have H6 := Lib.hid h6
                 clear h6)
    go_wp2_with fail
    go_end0
    refine ⟨rfl, HSub.out.back _ _ _ (H6.out.cast ?_ (sRp_ws v _ _))⟩
    simp [spT, mRp_ws]
  -- CASES

  · have hspf : sp = false := by simp [hsp]
    subst hspf
    clear hsp
    obtain ⟨g, x, rfl, hgp, hg0, hEnd⟩ := (hs rfl rfl).ex
    have r0 : (((w.setCell ⟨pb, 13, none⟩ (.int .u8 0)).alloc (.cells #[.int .u32 (o1 : Int), .int .u32 (lc1 : Int)] 40)).alloc (.cells #[.int .u32 (o2 : Int), .int .u32 (lc2 : Int)] 40)).cell? ⟨g, 0, none⟩ = some (.pointer x) := HQ0.out.cell hg0 hgp
    have q0 : (((w.setCell ⟨pb, 13, none⟩ (.int .u8 0)).alloc (.cells #[.int .u32 (o1 : Int), .int .u32 (lc1 : Int)] 40)).alloc (.cells #[.int .u32 (o2 : Int), .int .u32 (lc2 : Int)] 40)).cell? ⟨pb, 11, none⟩ = some (.bool v.si) := c11
    have xa0 := x0
    have xb0 := x1
    have ya0 := y0
    have yb0 := y1
    have HEn := Lib.hid (hEnd _ (HQ0.out.trans (Upd.refl _ _).drew))
    clear hs hgp hg0 hEnd c11 x0 x1 y0 y1
    go_enter Tryz.func79, Tryz.ntmps79
    go_wp2_with fail
    refine wp_region_held_drew (S := fun W => W.cell? ⟨g, 0, none⟩ = some (.pointer x) ∧ W.cell? ⟨pb, 11, none⟩ = some (.bool v.si) ∧ W.cell? ⟨w.heap.size, 0, none⟩ = some (.int .u32 (o1 : Int)) ∧ W.cell? ⟨w.heap.size, 1, none⟩ = some (.int .u32 (lc1 : Int)) ∧ W.cell? ⟨w.heap.size + 1, 0, none⟩ = some (.int .u32 (o2 : Int)) ∧ W.cell? ⟨w.heap.size + 1, 1, none⟩ = some (.int .u32 (lc2 : Int))) (by kernel_rfl) ⟨r0, q0, xa0, xb0, ya0, yb0⟩ (fun hHeld => ?_)
    refine wpAnyH_take (i := 0) (v := ?vc30) rfl (by kernel_rfl) (by kernel_rfl) (by kernel_rfl) (fun _ _ _ h => h) (Or.inl ⟨by rfl, ?hc30⟩) (by assumption) ?rc30
    case hc30 => (intro w hSw; (try dsimp only at hSw); go_simp; try with_reducible rfl)
    try simp only [List.getElem_toArray, List.getElem_cons_zero, Act.put, List.setIfInBounds_toArray, List.set_cons_zero, List.set_cons_succ]
    refine wpAnyH_take (i := 1) (v := ?vc31) rfl (by kernel_rfl) (by kernel_rfl) (by kernel_rfl) (fun _ _ _ h => h) (Or.inl ⟨by rfl, ?hc31⟩) (by assumption) ?rc31
    case hc31 => (intro w hSw; (try dsimp only at hSw); go_simp; try with_reducible rfl)
    try simp only [List.getElem_toArray, List.getElem_cons_zero, List.getElem_cons_succ, Act.put, List.setIfInBounds_toArray, List.set_cons_zero, List.set_cons_succ]
    refine wpAnyH_take (i := 2) (v := ?vc32) rfl (by kernel_rfl) (by kernel_rfl) (by kernel_rfl) (fun _ _ _ h => h) (Or.inl ⟨by rfl, ?hc32⟩) (by assumption) ?rc32
    case hc32 => (intro w hSw; (try dsimp only at hSw); go_simp; try with_reducible rfl)
    try simp only [List.getElem_toArray, List.getElem_cons_zero, List.getElem_cons_succ, Act.put, List.setIfInBounds_toArray, List.set_cons_zero, List.set_cons_succ]
    refine wpAnyH_take (i := 3) (v := ?vc33) rfl (by kernel_rfl) (by kernel_rfl) (by kernel_rfl) (fun _ _ _ h => h) (Or.inl ⟨by rfl, ?hc33⟩) (by assumption) ?rc33
    case hc33 => (intro w hSw; (try dsimp only at hSw); go_simp; try with_reducible rfl)
    try simp only [List.getElem_toArray, List.getElem_cons_zero, List.getElem_cons_succ, Act.put, List.setIfInBounds_toArray, List.set_cons_zero, List.set_cons_succ]
    refine wpAnyH_take (i := 4) (v := ?vc34) rfl (by kernel_rfl) (by kernel_rfl) (by kernel_rfl) (fun _ _ _ h => h) (Or.inl ⟨by rfl, ?hc34⟩) (by assumption) ?rc34
    case hc34 => (intro w hSw; (try dsimp only at hSw); go_simp; try with_reducible rfl)
    try simp only [List.getElem_toArray, List.getElem_cons_zero, List.getElem_cons_succ, Act.put, List.setIfInBounds_toArray, List.set_cons_zero, List.set_cons_succ]
    refine wpAnyH_take (i := 5) (v := ?vc35) rfl (by kernel_rfl) (by kernel_rfl) (by kernel_rfl) (fun _ _ _ h => h) (Or.inl ⟨by rfl, ?hc35⟩) (by assumption) ?rc35
    case hc35 => (intro w hSw; (try dsimp only at hSw); go_simp; try with_reducible rfl)
    try simp only [List.getElem_toArray, List.getElem_cons_zero, List.getElem_cons_succ, Act.put, List.setIfInBounds_toArray, List.set_cons_zero, List.set_cons_succ]
    refine wpAnyH_take (i := 6) (v := ?vc36) rfl (by kernel_rfl) (by kernel_rfl) (by kernel_rfl) (fun _ _ _ h => h) (Or.inl ⟨by rfl, ?hc36⟩) (by assumption) ?rc36
    case hc36 => (intro w hSw; (try dsimp only at hSw); go_simp; try with_reducible rfl)
    try simp only [List.getElem_toArray, List.getElem_cons_zero, List.getElem_cons_succ, Act.put, List.setIfInBounds_toArray, List.set_cons_zero, List.set_cons_succ]
    refine wpAnyH_take (i := 7) (v := ?vc37) rfl (by kernel_rfl) (by kernel_rfl) (by kernel_rfl) (fun _ _ _ h => h) (Or.inl ⟨by rfl, ?hc37⟩) (by assumption) ?rc37
    case hc37 => (intro w hSw; (try dsimp only at hSw); go_simp; try with_reducible rfl)
    try simp only [List.getElem_toArray, List.getElem_cons_zero, List.getElem_cons_succ, Act.put, List.setIfInBounds_toArray, List.set_cons_zero, List.set_cons_succ]
    refine wpAnyH_take (i := 8) (v := ?vc38) rfl (by kernel_rfl) (by kernel_rfl) (by kernel_rfl) (fun _ _ _ h => h) (Or.inl ⟨by rfl, ?hc38⟩) (by assumption) ?rc38
    case hc38 => (intro w hSw; (try dsimp only at hSw); go_simp; try with_reducible rfl)
    try simp only [List.getElem_toArray, List.getElem_cons_zero, List.getElem_cons_succ, Act.put, List.setIfInBounds_toArray, List.set_cons_zero, List.set_cons_succ]
    refine wpAnyH_take (i := 9) (v := ?vc39) rfl (by kernel_rfl) (by kernel_rfl) (by kernel_rfl) (fun _ _ _ h => h) (Or.inl ⟨by rfl, ?hc39⟩) (by assumption) ?rc39
    case hc39 => (intro w hSw; (try dsimp only at hSw); go_simp; try with_reducible rfl)
    try simp only [List.getElem_toArray, List.getElem_cons_zero, List.getElem_cons_succ, Act.put, List.setIfInBounds_toArray, List.set_cons_zero, List.set_cons_succ]
    refine wpAnyH_take (i := 10) (v := ?vc310) rfl (by kernel_rfl) (by kernel_rfl) (by kernel_rfl) (fun _ _ _ h => h) (Or.inl ⟨by rfl, ?hc310⟩) (by assumption) ?rc310
    case hc310 => (intro w hSw; (try dsimp only at hSw); go_simp; try with_reducible rfl)
    try simp only [List.getElem_toArray, List.getElem_cons_zero, List.getElem_cons_succ, Act.put, List.setIfInBounds_toArray, List.set_cons_zero, List.set_cons_succ]
    refine wpAnyH_take (i := 11) (v := ?vc311) rfl (by kernel_rfl) (by kernel_rfl) (by kernel_rfl) (fun _ _ _ h => h) (Or.inl ⟨by rfl, ?hc311⟩) (by assumption) ?rc311
    case hc311 => (intro w hSw; (try dsimp only at hSw); go_simp; try with_reducible rfl)
    try simp only [List.getElem_toArray, List.getElem_cons_zero, List.getElem_cons_succ, Act.put, List.setIfInBounds_toArray, List.set_cons_zero, List.set_cons_succ]
    refine wpAnyH_take (i := 12) (v := ?vc312) rfl (by kernel_rfl) (by kernel_rfl) (by kernel_rfl) (fun _ _ _ h => h) (Or.inl ⟨by rfl, ?hc312⟩) (by assumption) ?rc312
    case hc312 => (intro w hSw; (try dsimp only at hSw); go_simp; try with_reducible rfl)
    try simp only [List.getElem_toArray, List.getElem_cons_zero, List.getElem_cons_succ, Act.put, List.setIfInBounds_toArray, List.set_cons_zero, List.set_cons_succ]
    refine wpAnyH_ready (rs := [13]) (by kernel_rfl) (by simp) ?_
    refine AllReadyH.cons rfl (fun K hK => ?_) AllReadyH.nil
    go_simp
    go_wp2_with (go_at_call 137; refine HEn.out.mono ?_; rintro e w2 ⟨rfl, hu2⟩
                 have r1 := hu2.cell r0 fun h => h
                 have q1 := hu2.cell q0 fun h => h
                 have xa1 := hu2.cell xa0 fun h => h
                 have xb1 := hu2.cell xb0 fun h => h
                 have ya1 := hu2.cell ya0 fun h => h
                 have yb1 := hu2.cell yb0 fun h => h
                 have HU2 := Lib.hid hu2
                 clear hu2 HEn)
    refine hK.out _ _ ⟨r1, q1, xa1, xb1, ya1, yb1⟩ (fun hS => ?_)
    clear hK K
    try simp only [List.getElem_toArray, List.getElem_cons_zero, List.getElem_cons_succ, Act.put, List.setIfInBounds_toArray, List.set_cons_zero, List.set_cons_succ]
    refine wpAnyH_take (i := 14) (v := ?vc314) rfl (by kernel_rfl) (by kernel_rfl) (by kernel_rfl) (fun _ _ _ h => h) (Or.inl ⟨by rfl, ?hc314⟩) (by assumption) ?rc314
    case hc314 => (intro w hSw; (try dsimp only at hSw); go_simp; try with_reducible rfl)
    try simp only [List.getElem_toArray, List.getElem_cons_zero, List.getElem_cons_succ, Act.put, List.setIfInBounds_toArray, List.set_cons_zero, List.set_cons_succ]
    refine wpAnyH_take (i := 15) (v := ?vc315) rfl (by kernel_rfl) (by kernel_rfl) (by kernel_rfl) (fun _ _ _ h => h) (Or.inl ⟨by rfl, ?hc315⟩) (by assumption) ?rc315
    case hc315 => (intro w hSw; (try dsimp only at hSw); go_simp; try with_reducible rfl)
    try simp only [List.getElem_toArray, List.getElem_cons_zero, List.getElem_cons_succ, Act.put, List.setIfInBounds_toArray, List.set_cons_zero, List.set_cons_succ]
    refine wpAnyH_take (i := 16) (v := undef) rfl (by kernel_rfl) (by kernel_rfl) (by kernel_rfl) (fun _ _ _ h => h) (Or.inr ⟨by rfl, rfl⟩) (by assumption) ?_
    try simp only [List.getElem_toArray, List.getElem_cons_zero, List.getElem_cons_succ, Act.put, List.setIfInBounds_toArray, List.set_cons_zero, List.set_cons_succ]
    refine wpAnyH_take (i := 17) (v := undef) rfl (by kernel_rfl) (by kernel_rfl) (by kernel_rfl) (fun _ _ _ h => h) (Or.inr ⟨by rfl, rfl⟩) (by assumption) ?_
    try simp only [List.getElem_toArray, List.getElem_cons_zero, List.getElem_cons_succ, Act.put, List.setIfInBounds_toArray, List.set_cons_zero, List.set_cons_succ]
    refine wpAnyH_take (i := 18) (v := undef) rfl (by kernel_rfl) (by kernel_rfl) (by kernel_rfl) (fun _ _ _ h => h) (Or.inr ⟨by rfl, rfl⟩) (by assumption) ?_
    try simp only [List.getElem_toArray, List.getElem_cons_zero, List.getElem_cons_succ, Act.put, List.setIfInBounds_toArray, List.set_cons_zero, List.set_cons_succ]
    refine wpAnyH_take (i := 19) (v := undef) rfl (by kernel_rfl) (by kernel_rfl) (by kernel_rfl) (fun _ _ _ h => h) (Or.inr ⟨by rfl, rfl⟩) (by assumption) ?_
    try simp only [List.getElem_toArray, List.getElem_cons_zero, List.getElem_cons_succ, Act.put, List.setIfInBounds_toArray, List.set_cons_zero, List.set_cons_succ]
    refine wpAnyH_take (i := 20) (v := undef) rfl (by kernel_rfl) (by kernel_rfl) (by kernel_rfl) (fun _ _ _ h => h) (Or.inr ⟨by rfl, rfl⟩) (by assumption) ?_
    try simp only [List.getElem_toArray, List.getElem_cons_zero, List.getElem_cons_succ, Act.put, List.setIfInBounds_toArray, List.set_cons_zero, List.set_cons_succ]
    refine wpAnyH_take (i := 21) (v := undef) rfl (by kernel_rfl) (by kernel_rfl) (by kernel_rfl) (fun _ _ _ h => h) (Or.inr ⟨by rfl, rfl⟩) (by assumption) ?_
    try simp only [List.getElem_toArray, List.getElem_cons_zero, List.getElem_cons_succ, Act.put, List.setIfInBounds_toArray, List.set_cons_zero, List.set_cons_succ]
    refine wpAnyH_take (i := 22) (v := undef) rfl (by kernel_rfl) (by kernel_rfl) (by kernel_rfl) (fun _ _ _ h => h) (Or.inr ⟨by rfl, rfl⟩) (by assumption) ?_
    try simp only [List.getElem_toArray, List.getElem_cons_zero, List.getElem_cons_succ, Act.put, List.setIfInBounds_toArray, List.set_cons_zero, List.set_cons_succ]
    refine wpAnyH_take (i := 23) (v := undef) rfl (by kernel_rfl) (by kernel_rfl) (by kernel_rfl) (fun _ _ _ h => h) (Or.inr ⟨by rfl, rfl⟩) (by assumption) ?_
    try simp only [List.getElem_toArray, List.getElem_cons_zero, List.getElem_cons_succ, Act.put, List.setIfInBounds_toArray, List.set_cons_zero, List.set_cons_succ]
    refine wpAnyH_take (i := 24) (v := undef) rfl (by kernel_rfl) (by kernel_rfl) (by kernel_rfl) (fun _ _ _ h => h) (Or.inr ⟨by rfl, rfl⟩) (by assumption) ?_
    try simp only [List.getElem_toArray, List.getElem_cons_zero, List.getElem_cons_succ, Act.put, List.setIfInBounds_toArray, List.set_cons_zero, List.set_cons_succ]
    refine wpAnyH_take (i := 25) (v := undef) rfl (by kernel_rfl) (by kernel_rfl) (by kernel_rfl) (fun _ _ _ h => h) (Or.inr ⟨by rfl, rfl⟩) (by assumption) ?_
    try simp only [List.getElem_toArray, List.getElem_cons_zero, List.getElem_cons_succ, Act.put, List.setIfInBounds_toArray, List.set_cons_zero, List.set_cons_succ]
    refine wpAnyH_take (i := 26) (v := undef) rfl (by kernel_rfl) (by kernel_rfl) (by kernel_rfl) (fun _ _ _ h => h) (Or.inr ⟨by rfl, rfl⟩) (by assumption) ?_
    try simp only [List.getElem_toArray, List.getElem_cons_zero, List.getElem_cons_succ, Act.put, List.setIfInBounds_toArray, List.set_cons_zero, List.set_cons_succ]
    refine wpAnyH_take (i := 27) (v := ?vc327) rfl (by kernel_rfl) (by kernel_rfl) (by kernel_rfl) (fun _ _ _ h => h) (Or.inl ⟨by rfl, ?hc327⟩) (by assumption) ?rc327
    case hc327 => (intro w hSw; (try dsimp only at hSw); go_simp; try with_reducible rfl)
    try simp only [List.getElem_toArray, List.getElem_cons_zero, List.getElem_cons_succ, Act.put, List.setIfInBounds_toArray, List.set_cons_zero, List.set_cons_succ]
    refine wpAnyH_done (by kernel_rfl) ?_ _
    have H2 := Lib.hid (HP0.out.quiet hT ((Upd.refl (fun _ => False) _).drew.trans HU2.out))
    have hy0 : w2.cell? ⟨w.heap.size + 1, 0, none⟩ = some (.int .u32 (o2 : Int)) := cell_at (H2.out.at HX.out.2) 0
    have hy1 : w2.cell? ⟨w.heap.size + 1, 1, none⟩ = some (.int .u32 (lc2 : Int)) := cell_at (H2.out.at HX.out.2) 1
    have HSp := Lib.hid (v_spacePad hT H2.out o2 lc2 (by have := HB.out.2.2.2.2.2.2; omega))
    go_wp2_with (go_at_call 71; refine HSp.out.mono ?_; rintro e v5 ⟨rfl, h5⟩
                 have z0 : v5.cell? ⟨w.heap.size + 1, 0, none⟩ = some (.int .u32 (o2 : Int)) := cell_at (h5.at HX.out.2) 0
                 have z1 : v5.cell? ⟨w.heap.size + 1, 1, none⟩ = some (.int .u32 (lc2 : Int)) := cell_at (h5.at HX.out.2) 1
                 have HRp := Lib.hid (v_rightParen hT h5 o2 lc2 HB.out.2.1 HB.out.2.2.1 HB.out.2.2.2.1 HB.out.2.2.2.2.1 HB.out.2.2.2.2.2.1 (by
                   have h1 := HB.out.2.2.2.2.2.2
                   have h2 := spT_len ({ v with ws := 0 } : VS).ws
                   rw [List.length_append]
                   show _ + (mIndent v).length + 3 ≤ _
                   omega))
                 clear h5 HSp)
    go_wp2_with (go_at_call 114; refine HRp.out.mono ?_; rintro e v6 ⟨rfl, h6⟩
                 have H6 := Lib.hid h6
                 clear h6 HRp)
    go_wp2_with fail
    go_end0
    refine ⟨rfl, HSub.out.back _ _ _ (H6.out.cast ?_ (sRp_ws v _ _))⟩
    simp [spT, mRp_ws]

  · have hspt : sp = true := by simp [hsp, g1]
    subst hspt
    clear hsp
    obtain ⟨g, x, rfl, hgp, hg0, hEnd⟩ := (hs rfl rfl).ex
    have r0 : (((w.setCell ⟨pb, 13, none⟩ (.int .u8 0)).alloc (.cells #[.int .u32 (o1 : Int), .int .u32 (lc1 : Int)] 40)).alloc (.cells #[.int .u32 (o2 : Int), .int .u32 (lc2 : Int)] 40)).cell? ⟨g, 0, none⟩ = some (.pointer x) := HQ0.out.cell hg0 hgp
    have q0 : (((w.setCell ⟨pb, 13, none⟩ (.int .u8 0)).alloc (.cells #[.int .u32 (o1 : Int), .int .u32 (lc1 : Int)] 40)).alloc (.cells #[.int .u32 (o2 : Int), .int .u32 (lc2 : Int)] 40)).cell? ⟨pb, 11, none⟩ = some (.bool true) := by rw [c11]; exact congrArg (fun z => some (Value.bool z)) g1
    have xa0 := x0
    have xb0 := x1
    have ya0 := y0
    have yb0 := y1
    have HEn := Lib.hid (hEnd _ (HQ0.out.trans (Upd.refl _ _).drew))
    clear hs hgp hg0 hEnd c11 x0 x1 y0 y1 g1
    go_enter Tryz.func79, Tryz.ntmps79
    go_wp2_with fail
    refine wp_region_held_drew (S := fun W => W.cell? ⟨g, 0, none⟩ = some (.pointer x) ∧ W.cell? ⟨pb, 11, none⟩ = some (.bool true) ∧ W.cell? ⟨w.heap.size, 0, none⟩ = some (.int .u32 (o1 : Int)) ∧ W.cell? ⟨w.heap.size, 1, none⟩ = some (.int .u32 (lc1 : Int)) ∧ W.cell? ⟨w.heap.size + 1, 0, none⟩ = some (.int .u32 (o2 : Int)) ∧ W.cell? ⟨w.heap.size + 1, 1, none⟩ = some (.int .u32 (lc2 : Int))) (by kernel_rfl) ⟨r0, q0, xa0, xb0, ya0, yb0⟩ (fun hHeld => ?_)
    refine wpAnyH_take (i := 0) (v := ?vc40) rfl (by kernel_rfl) (by kernel_rfl) (by kernel_rfl) (fun _ _ _ h => h) (Or.inl ⟨by rfl, ?hc40⟩) (by assumption) ?rc40
    case hc40 => (intro w hSw; (try dsimp only at hSw); go_simp; try with_reducible rfl)
    try simp only [List.getElem_toArray, List.getElem_cons_zero, Act.put, List.setIfInBounds_toArray, List.set_cons_zero, List.set_cons_succ]
    refine wpAnyH_take (i := 1) (v := ?vc41) rfl (by kernel_rfl) (by kernel_rfl) (by kernel_rfl) (fun _ _ _ h => h) (Or.inl ⟨by rfl, ?hc41⟩) (by assumption) ?rc41
    case hc41 => (intro w hSw; (try dsimp only at hSw); go_simp; try with_reducible rfl)
    try simp only [List.getElem_toArray, List.getElem_cons_zero, List.getElem_cons_succ, Act.put, List.setIfInBounds_toArray, List.set_cons_zero, List.set_cons_succ]
    refine wpAnyH_take (i := 2) (v := ?vc42) rfl (by kernel_rfl) (by kernel_rfl) (by kernel_rfl) (fun _ _ _ h => h) (Or.inl ⟨by rfl, ?hc42⟩) (by assumption) ?rc42
    case hc42 => (intro w hSw; (try dsimp only at hSw); go_simp; try with_reducible rfl)
    try simp only [List.getElem_toArray, List.getElem_cons_zero, List.getElem_cons_succ, Act.put, List.setIfInBounds_toArray, List.set_cons_zero, List.set_cons_succ]
    refine wpAnyH_take (i := 3) (v := ?vc43) rfl (by kernel_rfl) (by kernel_rfl) (by kernel_rfl) (fun _ _ _ h => h) (Or.inl ⟨by rfl, ?hc43⟩) (by assumption) ?rc43
    case hc43 => (intro w hSw; (try dsimp only at hSw); go_simp; try with_reducible rfl)
    try simp only [List.getElem_toArray, List.getElem_cons_zero, List.getElem_cons_succ, Act.put, List.setIfInBounds_toArray, List.set_cons_zero, List.set_cons_succ]
    refine wpAnyH_take (i := 4) (v := ?vc44) rfl (by kernel_rfl) (by kernel_rfl) (by kernel_rfl) (fun _ _ _ h => h) (Or.inl ⟨by rfl, ?hc44⟩) (by assumption) ?rc44
    case hc44 => (intro w hSw; (try dsimp only at hSw); go_simp; try with_reducible rfl)
    try simp only [List.getElem_toArray, List.getElem_cons_zero, List.getElem_cons_succ, Act.put, List.setIfInBounds_toArray, List.set_cons_zero, List.set_cons_succ]
    refine wpAnyH_take (i := 5) (v := ?vc45) rfl (by kernel_rfl) (by kernel_rfl) (by kernel_rfl) (fun _ _ _ h => h) (Or.inl ⟨by rfl, ?hc45⟩) (by assumption) ?rc45
    case hc45 => (intro w hSw; (try dsimp only at hSw); go_simp; try with_reducible rfl)
    try simp only [List.getElem_toArray, List.getElem_cons_zero, List.getElem_cons_succ, Act.put, List.setIfInBounds_toArray, List.set_cons_zero, List.set_cons_succ]
    refine wpAnyH_take (i := 6) (v := ?vc46) rfl (by kernel_rfl) (by kernel_rfl) (by kernel_rfl) (fun _ _ _ h => h) (Or.inl ⟨by rfl, ?hc46⟩) (by assumption) ?rc46
    case hc46 => (intro w hSw; (try dsimp only at hSw); go_simp; try with_reducible rfl)
    try simp only [List.getElem_toArray, List.getElem_cons_zero, List.getElem_cons_succ, Act.put, List.setIfInBounds_toArray, List.set_cons_zero, List.set_cons_succ]
    refine wpAnyH_take (i := 7) (v := ?vc47) rfl (by kernel_rfl) (by kernel_rfl) (by kernel_rfl) (fun _ _ _ h => h) (Or.inl ⟨by rfl, ?hc47⟩) (by assumption) ?rc47
    case hc47 => (intro w hSw; (try dsimp only at hSw); go_simp; try with_reducible rfl)
    try simp only [List.getElem_toArray, List.getElem_cons_zero, List.getElem_cons_succ, Act.put, List.setIfInBounds_toArray, List.set_cons_zero, List.set_cons_succ]
    refine wpAnyH_take (i := 8) (v := ?vc48) rfl (by kernel_rfl) (by kernel_rfl) (by kernel_rfl) (fun _ _ _ h => h) (Or.inl ⟨by rfl, ?hc48⟩) (by assumption) ?rc48
    case hc48 => (intro w hSw; (try dsimp only at hSw); go_simp; try with_reducible rfl)
    try simp only [List.getElem_toArray, List.getElem_cons_zero, List.getElem_cons_succ, Act.put, List.setIfInBounds_toArray, List.set_cons_zero, List.set_cons_succ]
    refine wpAnyH_take (i := 9) (v := ?vc49) rfl (by kernel_rfl) (by kernel_rfl) (by kernel_rfl) (fun _ _ _ h => h) (Or.inl ⟨by rfl, ?hc49⟩) (by assumption) ?rc49
    case hc49 => (intro w hSw; (try dsimp only at hSw); go_simp; try with_reducible rfl)
    try simp only [List.getElem_toArray, List.getElem_cons_zero, List.getElem_cons_succ, Act.put, List.setIfInBounds_toArray, List.set_cons_zero, List.set_cons_succ]
    refine wpAnyH_take (i := 10) (v := ?vc410) rfl (by kernel_rfl) (by kernel_rfl) (by kernel_rfl) (fun _ _ _ h => h) (Or.inl ⟨by rfl, ?hc410⟩) (by assumption) ?rc410
    case hc410 => (intro w hSw; (try dsimp only at hSw); go_simp; try with_reducible rfl)
    try simp only [List.getElem_toArray, List.getElem_cons_zero, List.getElem_cons_succ, Act.put, List.setIfInBounds_toArray, List.set_cons_zero, List.set_cons_succ]
    refine wpAnyH_take (i := 11) (v := ?vc411) rfl (by kernel_rfl) (by kernel_rfl) (by kernel_rfl) (fun _ _ _ h => h) (Or.inl ⟨by rfl, ?hc411⟩) (by assumption) ?rc411
    case hc411 => (intro w hSw; (try dsimp only at hSw); go_simp; try with_reducible rfl)
    try simp only [List.getElem_toArray, List.getElem_cons_zero, List.getElem_cons_succ, Act.put, List.setIfInBounds_toArray, List.set_cons_zero, List.set_cons_succ]
    refine wpAnyH_take (i := 12) (v := ?vc412) rfl (by kernel_rfl) (by kernel_rfl) (by kernel_rfl) (fun _ _ _ h => h) (Or.inl ⟨by rfl, ?hc412⟩) (by assumption) ?rc412
    case hc412 => (intro w hSw; (try dsimp only at hSw); go_simp; try with_reducible rfl)
    try simp only [List.getElem_toArray, List.getElem_cons_zero, List.getElem_cons_succ, Act.put, List.setIfInBounds_toArray, List.set_cons_zero, List.set_cons_succ]
    refine wpAnyH_ready (rs := [13]) (by kernel_rfl) (by simp) ?_
    refine AllReadyH.cons rfl (fun K hK => ?_) AllReadyH.nil
    go_simp
    go_wp2_with (go_at_call 137; refine HEn.out.mono ?_; rintro e w2 ⟨rfl, hu2⟩
                 have r1 := hu2.cell r0 fun h => h
                 have q1 := hu2.cell q0 fun h => h
                 have xa1 := hu2.cell xa0 fun h => h
                 have xb1 := hu2.cell xb0 fun h => h
                 have ya1 := hu2.cell ya0 fun h => h
                 have yb1 := hu2.cell yb0 fun h => h
                 have HU2 := Lib.hid hu2
                 clear hu2 HEn)
    refine hK.out _ _ ⟨r1, q1, xa1, xb1, ya1, yb1⟩ (fun hS => ?_)
    clear hK K
    try simp only [List.getElem_toArray, List.getElem_cons_zero, List.getElem_cons_succ, Act.put, List.setIfInBounds_toArray, List.set_cons_zero, List.set_cons_succ]
    refine wpAnyH_take (i := 14) (v := ?vc414) rfl (by kernel_rfl) (by kernel_rfl) (by kernel_rfl) (fun _ _ _ h => h) (Or.inl ⟨by rfl, ?hc414⟩) (by assumption) ?rc414
    case hc414 => (intro w hSw; (try dsimp only at hSw); go_simp; try with_reducible rfl)
    try simp only [List.getElem_toArray, List.getElem_cons_zero, List.getElem_cons_succ, Act.put, List.setIfInBounds_toArray, List.set_cons_zero, List.set_cons_succ]
    refine wpAnyH_take (i := 15) (v := ?vc415) rfl (by kernel_rfl) (by kernel_rfl) (by kernel_rfl) (fun _ _ _ h => h) (Or.inl ⟨by rfl, ?hc415⟩) (by assumption) ?rc415
    case hc415 => (intro w hSw; (try dsimp only at hSw); go_simp; try with_reducible rfl)
    try simp only [List.getElem_toArray, List.getElem_cons_zero, List.getElem_cons_succ, Act.put, List.setIfInBounds_toArray, List.set_cons_zero, List.set_cons_succ]
    refine wpAnyH_take (i := 16) (v := ?vc416) rfl (by kernel_rfl) (by kernel_rfl) (by kernel_rfl) (fun _ _ _ h => h) (Or.inl ⟨by rfl, ?hc416⟩) (by assumption) ?rc416
    case hc416 => (intro w hSw; (try dsimp only at hSw); go_simp; try with_reducible rfl)
    try simp only [List.getElem_toArray, List.getElem_cons_zero, List.getElem_cons_succ, Act.put, List.setIfInBounds_toArray, List.set_cons_zero, List.set_cons_succ]
    refine wpAnyH_take (i := 17) (v := ?vc417) rfl (by kernel_rfl) (by kernel_rfl) (by kernel_rfl) (fun _ _ _ h => h) (Or.inl ⟨by rfl, ?hc417⟩) (by assumption) ?rc417
    case hc417 => (intro w hSw; (try dsimp only at hSw); go_simp; try with_reducible rfl)
    try simp only [List.getElem_toArray, List.getElem_cons_zero, List.getElem_cons_succ, Act.put, List.setIfInBounds_toArray, List.set_cons_zero, List.set_cons_succ]
    refine wpAnyH_take (i := 18) (v := ?vc418) rfl (by kernel_rfl) (by kernel_rfl) (by kernel_rfl) (fun _ _ _ h => h) (Or.inl ⟨by rfl, ?hc418⟩) (by assumption) ?rc418
    case hc418 => (intro w hSw; (try dsimp only at hSw); go_simp; try with_reducible rfl)
    try simp only [List.getElem_toArray, List.getElem_cons_zero, List.getElem_cons_succ, Act.put, List.setIfInBounds_toArray, List.set_cons_zero, List.set_cons_succ]
    refine wpAnyH_take (i := 19) (v := ?vc419) rfl (by kernel_rfl) (by kernel_rfl) (by kernel_rfl) (fun _ _ _ h => h) (Or.inl ⟨by rfl, ?hc419⟩) (by assumption) ?rc419
    case hc419 => (intro w hSw; (try dsimp only at hSw); go_simp; try with_reducible rfl)
    try simp only [List.getElem_toArray, List.getElem_cons_zero, List.getElem_cons_succ, Act.put, List.setIfInBounds_toArray, List.set_cons_zero, List.set_cons_succ]
    refine wpAnyH_take (i := 20) (v := ?vc420) rfl (by kernel_rfl) (by kernel_rfl) (by kernel_rfl) (fun _ _ _ h => h) (Or.inl ⟨by rfl, ?hc420⟩) (by assumption) ?rc420
    case hc420 => (intro w hSw; (try dsimp only at hSw); go_simp; try with_reducible rfl)
    try simp only [List.getElem_toArray, List.getElem_cons_zero, List.getElem_cons_succ, Act.put, List.setIfInBounds_toArray, List.set_cons_zero, List.set_cons_succ]
    refine wpAnyH_take (i := 21) (v := undef) rfl (by kernel_rfl) (by kernel_rfl) (by kernel_rfl) (fun _ _ _ h => h) (Or.inr ⟨by rfl, rfl⟩) (by assumption) ?_
    try simp only [List.getElem_toArray, List.getElem_cons_zero, List.getElem_cons_succ, Act.put, List.setIfInBounds_toArray, List.set_cons_zero, List.set_cons_succ]
    refine wpAnyH_take (i := 22) (v := undef) rfl (by kernel_rfl) (by kernel_rfl) (by kernel_rfl) (fun _ _ _ h => h) (Or.inr ⟨by rfl, rfl⟩) (by assumption) ?_
    try simp only [List.getElem_toArray, List.getElem_cons_zero, List.getElem_cons_succ, Act.put, List.setIfInBounds_toArray, List.set_cons_zero, List.set_cons_succ]
    refine wpAnyH_take (i := 23) (v := undef) rfl (by kernel_rfl) (by kernel_rfl) (by kernel_rfl) (fun _ _ _ h => h) (Or.inr ⟨by rfl, rfl⟩) (by assumption) ?_
    try simp only [List.getElem_toArray, List.getElem_cons_zero, List.getElem_cons_succ, Act.put, List.setIfInBounds_toArray, List.set_cons_zero, List.set_cons_succ]
    refine wpAnyH_take (i := 24) (v := undef) rfl (by kernel_rfl) (by kernel_rfl) (by kernel_rfl) (fun _ _ _ h => h) (Or.inr ⟨by rfl, rfl⟩) (by assumption) ?_
    try simp only [List.getElem_toArray, List.getElem_cons_zero, List.getElem_cons_succ, Act.put, List.setIfInBounds_toArray, List.set_cons_zero, List.set_cons_succ]
    refine wpAnyH_take (i := 25) (v := undef) rfl (by kernel_rfl) (by kernel_rfl) (by kernel_rfl) (fun _ _ _ h => h) (Or.inr ⟨by rfl, rfl⟩) (by assumption) ?_
    try simp only [List.getElem_toArray, List.getElem_cons_zero, List.getElem_cons_succ, Act.put, List.setIfInBounds_toArray, List.set_cons_zero, List.set_cons_succ]
    refine wpAnyH_take (i := 26) (v := ?vc426) rfl (by kernel_rfl) (by kernel_rfl) (by kernel_rfl) (fun _ _ _ h => h) (Or.inl ⟨by rfl, ?hc426⟩) (by assumption) ?rc426
    case hc426 => (intro w hSw; (try dsimp only at hSw); go_simp; try with_reducible rfl)
    try simp only [List.getElem_toArray, List.getElem_cons_zero, List.getElem_cons_succ, Act.put, List.setIfInBounds_toArray, List.set_cons_zero, List.set_cons_succ]
    refine wpAnyH_take (i := 27) (v := ?vc427) rfl (by kernel_rfl) (by kernel_rfl) (by kernel_rfl) (fun _ _ _ h => h) (Or.inl ⟨by rfl, ?hc427⟩) (by assumption) ?rc427
    case hc427 => (intro w hSw; (try dsimp only at hSw); go_simp; try with_reducible rfl)
    try simp only [List.getElem_toArray, List.getElem_cons_zero, List.getElem_cons_succ, Act.put, List.setIfInBounds_toArray, List.set_cons_zero, List.set_cons_succ]
    refine wpAnyH_done (by kernel_rfl) ?_ _
    have H2 := Lib.hid (HP0.out.quiet hT ((Upd.refl (fun _ => False) _).drew.trans HU2.out))
    have c13' := H2.out.c13
    have f13' := H2.out.fz 13
    have H3 := Lib.hid (H2.out.setc hT (i := 13) (val := .int .u8 1) { v with ws := 1 } (fun _ => rfl) rfl)
    have hy0 : (w2.setCell ⟨pb, 13, none⟩ (.int .u8 1)).cell? ⟨w.heap.size + 1, 0, none⟩ = some (.int .u32 (o2 : Int)) := cell_at (H3.out.at HX.out.2) 0
    have hy1 : (w2.setCell ⟨pb, 13, none⟩ (.int .u8 1)).cell? ⟨w.heap.size + 1, 1, none⟩ = some (.int .u32 (lc2 : Int)) := cell_at (H3.out.at HX.out.2) 1
    have HSp := Lib.hid (v_spacePad hT H3.out o2 lc2 (by have := HB.out.2.2.2.2.2.2; omega))
    go_wp2_with (go_at_call 71; refine HSp.out.mono ?_; rintro e v5 ⟨rfl, h5⟩
                 have z0 : v5.cell? ⟨w.heap.size + 1, 0, none⟩ = some (.int .u32 (o2 : Int)) := cell_at (h5.at HX.out.2) 0
                 have z1 : v5.cell? ⟨w.heap.size + 1, 1, none⟩ = some (.int .u32 (lc2 : Int)) := cell_at (h5.at HX.out.2) 1
                 have HRp := Lib.hid (v_rightParen hT h5 o2 lc2 HB.out.2.1 HB.out.2.2.1 HB.out.2.2.2.1 HB.out.2.2.2.2.1 HB.out.2.2.2.2.2.1 (by
                   have h1 := HB.out.2.2.2.2.2.2
                   have h2 := spT_len ({ v with ws := 1 } : VS).ws
                   rw [List.length_append]
                   show _ + (mIndent v).length + 3 ≤ _
                   omega))
                 clear h5 HSp)
    go_wp2_with (go_at_call 114; refine HRp.out.mono ?_; rintro e v6 ⟨rfl, h6⟩
                 have H6 := Lib.hid h6
                 clear h6 HRp)
    go_wp2_with fail
    go_end0
    refine ⟨rfl, HSub.out.back _ _ _ (H6.out.cast ?_ (sRp_ws v _ _))⟩
    simp [spT, mRp_ws]

  · have hspt : sp = true := by simp [hsp, g1, g2]
    subst hspt
    clear hsp
    obtain ⟨g, x, rfl, hgp, hg0, hEnd⟩ := (hs rfl rfl).ex
    have r0 : (((w.setCell ⟨pb, 13, none⟩ (.int .u8 0)).alloc (.cells #[.int .u32 (o1 : Int), .int .u32 (lc1 : Int)] 40)).alloc (.cells #[.int .u32 (o2 : Int), .int .u32 (lc2 : Int)] 40)).cell? ⟨g, 0, none⟩ = some (.pointer x) := HQ0.out.cell hg0 hgp
    have q0 : (((w.setCell ⟨pb, 13, none⟩ (.int .u8 0)).alloc (.cells #[.int .u32 (o1 : Int), .int .u32 (lc1 : Int)] 40)).alloc (.cells #[.int .u32 (o2 : Int), .int .u32 (lc2 : Int)] 40)).cell? ⟨pb, 11, none⟩ = some (.bool false) := by rw [c11]; exact congrArg (fun z => some (Value.bool z)) g1
    have xa0 := x0
    have xb0 := x1
    have ya0 := y0
    have yb0 := y1
    have HEn := Lib.hid (hEnd _ (HQ0.out.trans (Upd.refl _ _).drew))
    have hP1 := pos_line o1 lc1 HB.out.1
    have hP2 := pos_line o2 lc2 HB.out.2.1
    obtain ⟨L1, hL1⟩ : ∃ L1, lc1 / 16384 = L1 := ⟨_, rfl⟩
    rw [hL1] at hP1
    rw [← g2, hL1] at hP2
    have HPA := Lib.hid hP1
    have HPB := Lib.hid hP2
    have HLL := Lib.hid hL1
    clear hP1 hP2 hL1
    clear hs hgp hg0 hEnd c11 x0 x1 y0 y1 g1 g2
    go_enter Tryz.func79, Tryz.ntmps79
    go_wp2_with fail
    refine wp_region_held_drew (S := fun W => W.cell? ⟨g, 0, none⟩ = some (.pointer x) ∧ W.cell? ⟨pb, 11, none⟩ = some (.bool false) ∧ W.cell? ⟨w.heap.size, 0, none⟩ = some (.int .u32 (o1 : Int)) ∧ W.cell? ⟨w.heap.size, 1, none⟩ = some (.int .u32 (lc1 : Int)) ∧ W.cell? ⟨w.heap.size + 1, 0, none⟩ = some (.int .u32 (o2 : Int)) ∧ W.cell? ⟨w.heap.size + 1, 1, none⟩ = some (.int .u32 (lc2 : Int))) (by kernel_rfl) ⟨r0, q0, xa0, xb0, ya0, yb0⟩ (fun hHeld => ?_)
    refine wpAnyH_take (i := 0) (v := ?vc50) rfl (by kernel_rfl) (by kernel_rfl) (by kernel_rfl) (fun _ _ _ h => h) (Or.inl ⟨by rfl, ?hc50⟩) (by assumption) ?rc50
    case hc50 => (intro w hSw; (try dsimp only at hSw); go_simp; try with_reducible rfl)
    try simp only [List.getElem_toArray, List.getElem_cons_zero, Act.put, List.setIfInBounds_toArray, List.set_cons_zero, List.set_cons_succ]
    refine wpAnyH_take (i := 1) (v := ?vc51) rfl (by kernel_rfl) (by kernel_rfl) (by kernel_rfl) (fun _ _ _ h => h) (Or.inl ⟨by rfl, ?hc51⟩) (by assumption) ?rc51
    case hc51 => (intro w hSw; (try dsimp only at hSw); go_simp; try with_reducible rfl)
    try simp only [List.getElem_toArray, List.getElem_cons_zero, List.getElem_cons_succ, Act.put, List.setIfInBounds_toArray, List.set_cons_zero, List.set_cons_succ]
    refine wpAnyH_take (i := 2) (v := ?vc52) rfl (by kernel_rfl) (by kernel_rfl) (by kernel_rfl) (fun _ _ _ h => h) (Or.inl ⟨by rfl, ?hc52⟩) (by assumption) ?rc52
    case hc52 => (intro w hSw; (try dsimp only at hSw); go_simp; try with_reducible rfl)
    try simp only [List.getElem_toArray, List.getElem_cons_zero, List.getElem_cons_succ, Act.put, List.setIfInBounds_toArray, List.set_cons_zero, List.set_cons_succ]
    refine wpAnyH_take (i := 3) (v := ?vc53) rfl (by kernel_rfl) (by kernel_rfl) (by kernel_rfl) (fun _ _ _ h => h) (Or.inl ⟨by rfl, ?hc53⟩) (by assumption) ?rc53
    case hc53 => (intro w hSw; (try dsimp only at hSw); go_simp; try with_reducible rfl)
    try simp only [List.getElem_toArray, List.getElem_cons_zero, List.getElem_cons_succ, Act.put, List.setIfInBounds_toArray, List.set_cons_zero, List.set_cons_succ]
    refine wpAnyH_take (i := 4) (v := ?vc54) rfl (by kernel_rfl) (by kernel_rfl) (by kernel_rfl) (fun _ _ _ h => h) (Or.inl ⟨by rfl, ?hc54⟩) (by assumption) ?rc54
    case hc54 => (intro w hSw; (try dsimp only at hSw); go_simp; try with_reducible rfl)
    try simp only [List.getElem_toArray, List.getElem_cons_zero, List.getElem_cons_succ, Act.put, List.setIfInBounds_toArray, List.set_cons_zero, List.set_cons_succ]
    refine wpAnyH_take (i := 5) (v := ?vc55) rfl (by kernel_rfl) (by kernel_rfl) (by kernel_rfl) (fun _ _ _ h => h) (Or.inl ⟨by rfl, ?hc55⟩) (by assumption) ?rc55
    case hc55 => (intro w hSw; (try dsimp only at hSw); go_simp; try with_reducible rfl)
    try simp only [List.getElem_toArray, List.getElem_cons_zero, List.getElem_cons_succ, Act.put, List.setIfInBounds_toArray, List.set_cons_zero, List.set_cons_succ]
    refine wpAnyH_take (i := 6) (v := ?vc56) rfl (by kernel_rfl) (by kernel_rfl) (by kernel_rfl) (fun _ _ _ h => h) (Or.inl ⟨by rfl, ?hc56⟩) (by assumption) ?rc56
    case hc56 => (intro w hSw; (try dsimp only at hSw); go_simp; try with_reducible rfl)
    try simp only [List.getElem_toArray, List.getElem_cons_zero, List.getElem_cons_succ, Act.put, List.setIfInBounds_toArray, List.set_cons_zero, List.set_cons_succ]
    refine wpAnyH_take (i := 7) (v := ?vc57) rfl (by kernel_rfl) (by kernel_rfl) (by kernel_rfl) (fun _ _ _ h => h) (Or.inl ⟨by rfl, ?hc57⟩) (by assumption) ?rc57
    case hc57 => (intro w hSw; (try dsimp only at hSw); go_simp; try with_reducible rfl)
    try simp only [List.getElem_toArray, List.getElem_cons_zero, List.getElem_cons_succ, Act.put, List.setIfInBounds_toArray, List.set_cons_zero, List.set_cons_succ]
    refine wpAnyH_take (i := 8) (v := ?vc58) rfl (by kernel_rfl) (by kernel_rfl) (by kernel_rfl) (fun _ _ _ h => h) (Or.inl ⟨by rfl, ?hc58⟩) (by assumption) ?rc58
    case hc58 => (intro w hSw; (try dsimp only at hSw); go_simp; try with_reducible rfl)
    try simp only [List.getElem_toArray, List.getElem_cons_zero, List.getElem_cons_succ, Act.put, List.setIfInBounds_toArray, List.set_cons_zero, List.set_cons_succ]
    refine wpAnyH_take (i := 9) (v := ?vc59) rfl (by kernel_rfl) (by kernel_rfl) (by kernel_rfl) (fun _ _ _ h => h) (Or.inl ⟨by rfl, ?hc59⟩) (by assumption) ?rc59
    case hc59 => (intro w hSw; (try dsimp only at hSw); go_simp; try with_reducible rfl)
    try simp only [List.getElem_toArray, List.getElem_cons_zero, List.getElem_cons_succ, Act.put, List.setIfInBounds_toArray, List.set_cons_zero, List.set_cons_succ]
    refine wpAnyH_take (i := 10) (v := ?vc510) rfl (by kernel_rfl) (by kernel_rfl) (by kernel_rfl) (fun _ _ _ h => h) (Or.inl ⟨by rfl, ?hc510⟩) (by assumption) ?rc510
    case hc510 => (intro w hSw; (try dsimp only at hSw); go_simp; try with_reducible rfl)
    try simp only [List.getElem_toArray, List.getElem_cons_zero, List.getElem_cons_succ, Act.put, List.setIfInBounds_toArray, List.set_cons_zero, List.set_cons_succ]
    refine wpAnyH_take (i := 11) (v := ?vc511) rfl (by kernel_rfl) (by kernel_rfl) (by kernel_rfl) (fun _ _ _ h => h) (Or.inl ⟨by rfl, ?hc511⟩) (by assumption) ?rc511
    case hc511 => (intro w hSw; (try dsimp only at hSw); go_simp; try with_reducible rfl)
    try simp only [List.getElem_toArray, List.getElem_cons_zero, List.getElem_cons_succ, Act.put, List.setIfInBounds_toArray, List.set_cons_zero, List.set_cons_succ]
    refine wpAnyH_take (i := 12) (v := ?vc512) rfl (by kernel_rfl) (by kernel_rfl) (by kernel_rfl) (fun _ _ _ h => h) (Or.inl ⟨by rfl, ?hc512⟩) (by assumption) ?rc512
    case hc512 => (intro w hSw; (try dsimp only at hSw); go_simp; try with_reducible rfl)
    try simp only [List.getElem_toArray, List.getElem_cons_zero, List.getElem_cons_succ, Act.put, List.setIfInBounds_toArray, List.set_cons_zero, List.set_cons_succ]
    refine wpAnyH_ready (rs := [13]) (by kernel_rfl) (by simp) ?_
    refine AllReadyH.cons rfl (fun K hK => ?_) AllReadyH.nil
    go_simp
    go_wp2_with (go_at_call 137; refine HEn.out.mono ?_; rintro e w2 ⟨rfl, hu2⟩
                 have r1 := hu2.cell r0 fun h => h
                 have q1 := hu2.cell q0 fun h => h
                 have xa1 := hu2.cell xa0 fun h => h
                 have xb1 := hu2.cell xb0 fun h => h
                 have ya1 := hu2.cell ya0 fun h => h
                 have yb1 := hu2.cell yb0 fun h => h
                 have HU2 := Lib.hid hu2
                 clear hu2 HEn)
    refine hK.out _ _ ⟨r1, q1, xa1, xb1, ya1, yb1⟩ (fun hS => ?_)
    clear hK K
    try simp only [List.getElem_toArray, List.getElem_cons_zero, List.getElem_cons_succ, Act.put, List.setIfInBounds_toArray, List.set_cons_zero, List.set_cons_succ]
    refine wpAnyH_take (i := 14) (v := ?vc514) rfl (by kernel_rfl) (by kernel_rfl) (by kernel_rfl) (fun _ _ _ h => h) (Or.inl ⟨by rfl, ?hc514⟩) (by assumption) ?rc514
    case hc514 => (intro w hSw; (try dsimp only at hSw); go_simp; try with_reducible rfl)
    try simp only [List.getElem_toArray, List.getElem_cons_zero, List.getElem_cons_succ, Act.put, List.setIfInBounds_toArray, List.set_cons_zero, List.set_cons_succ]
    refine wpAnyH_take (i := 15) (v := ?vc515) rfl (by kernel_rfl) (by kernel_rfl) (by kernel_rfl) (fun _ _ _ h => h) (Or.inl ⟨by rfl, ?hc515⟩) (by assumption) ?rc515
    case hc515 => (intro w hSw; (try dsimp only at hSw); go_simp; try with_reducible rfl)
    try simp only [List.getElem_toArray, List.getElem_cons_zero, List.getElem_cons_succ, Act.put, List.setIfInBounds_toArray, List.set_cons_zero, List.set_cons_succ]
    refine wpAnyH_take (i := 16) (v := ?vc516) rfl (by kernel_rfl) (by kernel_rfl) (by kernel_rfl) (fun _ _ _ h => h) (Or.inl ⟨by rfl, ?hc516⟩) (by assumption) ?rc516
    case hc516 => (intro w hSw; (try dsimp only at hSw); go_simp; try with_reducible rfl)
    try simp only [List.getElem_toArray, List.getElem_cons_zero, List.getElem_cons_succ, Act.put, List.setIfInBounds_toArray, List.set_cons_zero, List.set_cons_succ]
    refine wpAnyH_take (i := 17) (v := ?vc517) rfl (by kernel_rfl) (by kernel_rfl) (by kernel_rfl) (fun _ _ _ h => h) (Or.inl ⟨by rfl, ?hc517⟩) (by assumption) ?rc517
    case hc517 => (intro w hSw; (try dsimp only at hSw); go_simp; try with_reducible rfl)
    try simp only [List.getElem_toArray, List.getElem_cons_zero, List.getElem_cons_succ, Act.put, List.setIfInBounds_toArray, List.set_cons_zero, List.set_cons_succ]
    refine wpAnyH_take (i := 18) (v := ?vc518) rfl (by kernel_rfl) (by kernel_rfl) (by kernel_rfl) (fun _ _ _ h => h) (Or.inl ⟨by rfl, ?hc518⟩) (by assumption) ?rc518
    case hc518 => (intro w hSw; (try dsimp only at hSw); go_simp; try with_reducible rfl)
    try simp only [List.getElem_toArray, List.getElem_cons_zero, List.getElem_cons_succ, Act.put, List.setIfInBounds_toArray, List.set_cons_zero, List.set_cons_succ]
    refine wpAnyH_take (i := 19) (v := ?vc519) rfl (by kernel_rfl) (by kernel_rfl) (by kernel_rfl) (fun _ _ _ h => h) (Or.inl ⟨by rfl, ?hc519⟩) (by assumption) ?rc519
    case hc519 => (intro w hSw; (try dsimp only at hSw); go_simp; try with_reducible rfl)
    try simp only [List.getElem_toArray, List.getElem_cons_zero, List.getElem_cons_succ, Act.put, List.setIfInBounds_toArray, List.set_cons_zero, List.set_cons_succ]
    refine wpAnyH_take (i := 20) (v := ?vc520) rfl (by kernel_rfl) (by kernel_rfl) (by kernel_rfl) (fun _ _ _ h => h) (Or.inl ⟨by rfl, ?hc520⟩) (by assumption) ?rc520
    case hc520 => (intro w hSw; (try dsimp only at hSw); go_simp; try with_reducible rfl)
    try simp only [List.getElem_toArray, List.getElem_cons_zero, List.getElem_cons_succ, Act.put, List.setIfInBounds_toArray, List.set_cons_zero, List.set_cons_succ]
    refine wpAnyH_take (i := 21) (v := ?vc521) rfl (by kernel_rfl) (by kernel_rfl) (by kernel_rfl) (fun _ _ _ h => h) (Or.inl ⟨by rfl, ?hc521⟩) (by assumption) ?rc521
    case hc521 => (intro w hSw; (try dsimp only at hSw); go_simp; try with_reducible rfl)
    try simp only [List.getElem_toArray, List.getElem_cons_zero, List.getElem_cons_succ, Act.put, List.setIfInBounds_toArray, List.set_cons_zero, List.set_cons_succ]
    refine wpAnyH_take (i := 23) (v := ?vc523) rfl (by kernel_rfl) (by kernel_rfl) (by kernel_rfl) (fun _ _ _ h => h) (Or.inl ⟨by rfl, ?hc523⟩) (by assumption) ?rc523
    case hc523 => (intro w hSw; (try dsimp only at hSw); go_simp; try with_reducible rfl)
    try simp only [List.getElem_toArray, List.getElem_cons_zero, List.getElem_cons_succ, Act.put, List.setIfInBounds_toArray, List.set_cons_zero, List.set_cons_succ]
    refine wpAnyH_ready (rs := [22]) (by kernel_rfl) (by simp) ?_
    refine AllReadyH.cons rfl (fun K hK => ?_) AllReadyH.nil
    go_simp
    go_wp2_with (go_at_call 41; refine (HPA.out _).mono ?_; rintro e w3 ⟨rfl, hu3⟩
                 have r2 := hu3.cell r1 fun h => h
                 have q2 := hu3.cell q1 fun h => h
                 have xa2 := hu3.cell xa1 fun h => h
                 have xb2 := hu3.cell xb1 fun h => h
                 have ya2 := hu3.cell ya1 fun h => h
                 have yb2 := hu3.cell yb1 fun h => h
                 have HU3 := Lib.hid hu3
                 clear hu3 HPA)
    refine hK.out _ _ ⟨r2, q2, xa2, xb2, ya2, yb2⟩ (fun hS => ?_)
    clear hK K
    try simp only [List.getElem_toArray, List.getElem_cons_zero, List.getElem_cons_succ, Act.put, List.setIfInBounds_toArray, List.set_cons_zero, List.set_cons_succ]
    refine wpAnyH_ready (rs := [24]) (by kernel_rfl) (by simp) ?_
    refine AllReadyH.cons rfl (fun K hK => ?_) AllReadyH.nil
    go_simp
    go_wp2_with (go_at_call 41; refine (HPB.out _).mono ?_; rintro e w4 ⟨rfl, hu4⟩
                 have r3 := hu4.cell r2 fun h => h
                 have q3 := hu4.cell q2 fun h => h
                 have xa3 := hu4.cell xa2 fun h => h
                 have xb3 := hu4.cell xb2 fun h => h
                 have ya3 := hu4.cell ya2 fun h => h
                 have yb3 := hu4.cell yb2 fun h => h
                 have HU4 := Lib.hid hu4
                 clear hu4 HPB)
    refine hK.out _ _ ⟨r3, q3, xa3, xb3, ya3, yb3⟩ (fun hS => ?_)
    clear hK K
    try simp only [List.getElem_toArray, List.getElem_cons_zero, List.getElem_cons_succ, Act.put, List.setIfInBounds_toArray, List.set_cons_zero, List.set_cons_succ]
    refine wpAnyH_take (i := 25) (v := ?vc525) rfl (by kernel_rfl) (by kernel_rfl) (by kernel_rfl) (fun _ _ _ h => h) (Or.inl ⟨by rfl, ?hc525⟩) (by assumption) ?rc525
    case hc525 => (intro w hSw; (try dsimp only at hSw); go_simp; try with_reducible rfl)
    try simp only [List.getElem_toArray, List.getElem_cons_zero, List.getElem_cons_succ, Act.put, List.setIfInBounds_toArray, List.set_cons_zero, List.set_cons_succ]
    refine wpAnyH_take (i := 26) (v := ?vc526) rfl (by kernel_rfl) (by kernel_rfl) (by kernel_rfl) (fun _ _ _ h => h) (Or.inl ⟨by rfl, ?hc526⟩) (by assumption) ?rc526
    case hc526 => (intro w hSw; (try dsimp only at hSw); go_simp; try with_reducible rfl)
    try simp only [List.getElem_toArray, List.getElem_cons_zero, List.getElem_cons_succ, Act.put, List.setIfInBounds_toArray, List.set_cons_zero, List.set_cons_succ]
    refine wpAnyH_take (i := 27) (v := ?vc527) rfl (by kernel_rfl) (by kernel_rfl) (by kernel_rfl) (fun _ _ _ h => h) (Or.inl ⟨by rfl, ?hc527⟩) (by assumption) ?rc527
    case hc527 => (intro w hSw; (try dsimp only at hSw); go_simp; try with_reducible rfl)
    try simp only [List.getElem_toArray, List.getElem_cons_zero, List.getElem_cons_succ, Act.put, List.setIfInBounds_toArray, List.set_cons_zero, List.set_cons_succ]
    refine wpAnyH_done (by kernel_rfl) ?_ _
    have H2 := Lib.hid (HP0.out.quiet hT ((((Upd.refl (fun _ => False) _).drew.trans HU2.out).trans HU3.out).trans HU4.out))
    have c13' := H2.out.c13
    have f13' := H2.out.fz 13
    have H3 := Lib.hid (H2.out.setc hT (i := 13) (val := .int .u8 1) { v with ws := 1 } (fun _ => rfl) rfl)
    have hy0 : (w4.setCell ⟨pb, 13, none⟩ (.int .u8 1)).cell? ⟨w.heap.size + 1, 0, none⟩ = some (.int .u32 (o2 : Int)) := cell_at (H3.out.at HX.out.2) 0
    have hy1 : (w4.setCell ⟨pb, 13, none⟩ (.int .u8 1)).cell? ⟨w.heap.size + 1, 1, none⟩ = some (.int .u32 (lc2 : Int)) := cell_at (H3.out.at HX.out.2) 1
    have HSp := Lib.hid (v_spacePad hT H3.out o2 lc2 (by have := HB.out.2.2.2.2.2.2; omega))
    go_wp2_with (go_at_call 71; refine HSp.out.mono ?_; rintro e v5 ⟨rfl, h5⟩
                 have z0 : v5.cell? ⟨w.heap.size + 1, 0, none⟩ = some (.int .u32 (o2 : Int)) := cell_at (h5.at HX.out.2) 0
                 have z1 : v5.cell? ⟨w.heap.size + 1, 1, none⟩ = some (.int .u32 (lc2 : Int)) := cell_at (h5.at HX.out.2) 1
                 have HRp := Lib.hid (v_rightParen hT h5 o2 lc2 HB.out.2.1 HB.out.2.2.1 HB.out.2.2.2.1 HB.out.2.2.2.2.1 HB.out.2.2.2.2.2.1 (by
                   have h1 := HB.out.2.2.2.2.2.2
                   have h2 := spT_len ({ v with ws := 1 } : VS).ws
                   rw [List.length_append]
                   show _ + (mIndent v).length + 3 ≤ _
                   omega))
                 clear h5 HSp)
    go_wp2_with (go_at_call 114; refine HRp.out.mono ?_; rintro e v6 ⟨rfl, h6⟩
                 have H6 := Lib.hid h6
                 clear h6 HRp)
    go_wp2_with fail
    go_end0
    refine ⟨rfl, HSub.out.back _ _ _ (H6.out.cast ?_ (sRp_ws v _ _))⟩
    simp [spT, mRp_ws]

  · have hspt : sp = false := by simp [hsp, g1, g2]
    subst hspt
    clear hsp
    obtain ⟨g, x, rfl, hgp, hg0, hEnd⟩ := (hs rfl rfl).ex
    have r0 : (((w.setCell ⟨pb, 13, none⟩ (.int .u8 0)).alloc (.cells #[.int .u32 (o1 : Int), .int .u32 (lc1 : Int)] 40)).alloc (.cells #[.int .u32 (o2 : Int), .int .u32 (lc2 : Int)] 40)).cell? ⟨g, 0, none⟩ = some (.pointer x) := HQ0.out.cell hg0 hgp
    have q0 : (((w.setCell ⟨pb, 13, none⟩ (.int .u8 0)).alloc (.cells #[.int .u32 (o1 : Int), .int .u32 (lc1 : Int)] 40)).alloc (.cells #[.int .u32 (o2 : Int), .int .u32 (lc2 : Int)] 40)).cell? ⟨pb, 11, none⟩ = some (.bool false) := by rw [c11]; exact congrArg (fun z => some (Value.bool z)) g1
    have xa0 := x0
    have xb0 := x1
    have ya0 := y0
    have yb0 := y1
    have HEn := Lib.hid (hEnd _ (HQ0.out.trans (Upd.refl _ _).drew))
    have hP1 := pos_line o1 lc1 HB.out.1
    have hP2 := pos_line o2 lc2 HB.out.2.1
    obtain ⟨L1, hL1⟩ : ∃ L1, lc1 / 16384 = L1 := ⟨_, rfl⟩
    obtain ⟨L2, hL2⟩ : ∃ L2, lc2 / 16384 = L2 := ⟨_, rfl⟩
    have hLI : ((L1 : Int) == (L2 : Int)) = false := by rw [beq_eq_false_iff_ne]; omega
    rw [hL1] at hP1
    rw [hL2] at hP2
    have HPA := Lib.hid hP1
    have HPB := Lib.hid hP2
    have HLL := Lib.hid hL1
    clear hP1 hP2 hL1 hL2
    clear hs hgp hg0 hEnd c11 x0 x1 y0 y1 g1 g2
    go_enter Tryz.func79, Tryz.ntmps79
    go_wp2_with fail
    refine wp_region_held_drew (S := fun W => W.cell? ⟨g, 0, none⟩ = some (.pointer x) ∧ W.cell? ⟨pb, 11, none⟩ = some (.bool false) ∧ W.cell? ⟨w.heap.size, 0, none⟩ = some (.int .u32 (o1 : Int)) ∧ W.cell? ⟨w.heap.size, 1, none⟩ = some (.int .u32 (lc1 : Int)) ∧ W.cell? ⟨w.heap.size + 1, 0, none⟩ = some (.int .u32 (o2 : Int)) ∧ W.cell? ⟨w.heap.size + 1, 1, none⟩ = some (.int .u32 (lc2 : Int))) (by kernel_rfl) ⟨r0, q0, xa0, xb0, ya0, yb0⟩ (fun hHeld => ?_)
    refine wpAnyH_take (i := 0) (v := ?vc60) rfl (by kernel_rfl) (by kernel_rfl) (by kernel_rfl) (fun _ _ _ h => h) (Or.inl ⟨by rfl, ?hc60⟩) (by assumption) ?rc60
    case hc60 => (intro w hSw; (try dsimp only at hSw); go_simp; try with_reducible rfl)
    try simp only [List.getElem_toArray, List.getElem_cons_zero, Act.put, List.setIfInBounds_toArray, List.set_cons_zero, List.set_cons_succ]
    refine wpAnyH_take (i := 1) (v := ?vc61) rfl (by kernel_rfl) (by kernel_rfl) (by kernel_rfl) (fun _ _ _ h => h) (Or.inl ⟨by rfl, ?hc61⟩) (by assumption) ?rc61
    case hc61 => (intro w hSw; (try dsimp only at hSw); go_simp; try with_reducible rfl)
    try simp only [List.getElem_toArray, List.getElem_cons_zero, List.getElem_cons_succ, Act.put, List.setIfInBounds_toArray, List.set_cons_zero, List.set_cons_succ]
    refine wpAnyH_take (i := 2) (v := ?vc62) rfl (by kernel_rfl) (by kernel_rfl) (by kernel_rfl) (fun _ _ _ h => h) (Or.inl ⟨by rfl, ?hc62⟩) (by assumption) ?rc62
    case hc62 => (intro w hSw; (try dsimp only at hSw); go_simp; try with_reducible rfl)
    try simp only [List.getElem_toArray, List.getElem_cons_zero, List.getElem_cons_succ, Act.put, List.setIfInBounds_toArray, List.set_cons_zero, List.set_cons_succ]
    refine wpAnyH_take (i := 3) (v := ?vc63) rfl (by kernel_rfl) (by kernel_rfl) (by kernel_rfl) (fun _ _ _ h => h) (Or.inl ⟨by rfl, ?hc63⟩) (by assumption) ?rc63
    case hc63 => (intro w hSw; (try dsimp only at hSw); go_simp; try with_reducible rfl)
    try simp only [List.getElem_toArray, List.getElem_cons_zero, List.getElem_cons_succ, Act.put, List.setIfInBounds_toArray, List.set_cons_zero, List.set_cons_succ]
    refine wpAnyH_take (i := 4) (v := ?vc64) rfl (by kernel_rfl) (by kernel_rfl) (by kernel_rfl) (fun _ _ _ h => h) (Or.inl ⟨by rfl, ?hc64⟩) (by assumption) ?rc64
    case hc64 => (intro w hSw; (try dsimp only at hSw); go_simp; try with_reducible rfl)
    try simp only [List.getElem_toArray, List.getElem_cons_zero, List.getElem_cons_succ, Act.put, List.setIfInBounds_toArray, List.set_cons_zero, List.set_cons_succ]
    refine wpAnyH_take (i := 5) (v := ?vc65) rfl (by kernel_rfl) (by kernel_rfl) (by kernel_rfl) (fun _ _ _ h => h) (Or.inl ⟨by rfl, ?hc65⟩) (by assumption) ?rc65
    case hc65 => (intro w hSw; (try dsimp only at hSw); go_simp; try with_reducible rfl)
    try simp only [List.getElem_toArray, List.getElem_cons_zero, List.getElem_cons_succ, Act.put, List.setIfInBounds_toArray, List.set_cons_zero, List.set_cons_succ]
    refine wpAnyH_take (i := 6) (v := ?vc66) rfl (by kernel_rfl) (by kernel_rfl) (by kernel_rfl) (fun _ _ _ h => h) (Or.inl ⟨by rfl, ?hc66⟩) (by assumption) ?rc66
    case hc66 => (intro w hSw; (try dsimp only at hSw); go_simp; try with_reducible rfl)
    try simp only [List.getElem_toArray, List.getElem_cons_zero, List.getElem_cons_succ, Act.put, List.setIfInBounds_toArray, List.set_cons_zero, List.set_cons_succ]
    refine wpAnyH_take (i := 7) (v := ?vc67) rfl (by kernel_rfl) (by kernel_rfl) (by kernel_rfl) (fun _ _ _ h => h) (Or.inl ⟨by rfl, ?hc67⟩) (by assumption) ?rc67
    case hc67 => (intro w hSw; (try dsimp only at hSw); go_simp; try with_reducible rfl)
    try simp only [List.getElem_toArray, List.getElem_cons_zero, List.getElem_cons_succ, Act.put, List.setIfInBounds_toArray, List.set_cons_zero, List.set_cons_succ]
    refine wpAnyH_take (i := 8) (v := ?vc68) rfl (by kernel_rfl) (by kernel_rfl) (by kernel_rfl) (fun _ _ _ h => h) (Or.inl ⟨by rfl, ?hc68⟩) (by assumption) ?rc68
    case hc68 => (intro w hSw; (try dsimp only at hSw); go_simp; try with_reducible rfl)
    try simp only [List.getElem_toArray, List.getElem_cons_zero, List.getElem_cons_succ, Act.put, List.setIfInBounds_toArray, List.set_cons_zero, List.set_cons_succ]
    refine wpAnyH_take (i := 9) (v := ?vc69) rfl (by kernel_rfl) (by kernel_rfl) (by kernel_rfl) (fun _ _ _ h => h) (Or.inl ⟨by rfl, ?hc69⟩) (by assumption) ?rc69
    case hc69 => (intro w hSw; (try dsimp only at hSw); go_simp; try with_reducible rfl)
    try simp only [List.getElem_toArray, List.getElem_cons_zero, List.getElem_cons_succ, Act.put, List.setIfInBounds_toArray, List.set_cons_zero, List.set_cons_succ]
    refine wpAnyH_take (i := 10) (v := ?vc610) rfl (by kernel_rfl) (by kernel_rfl) (by kernel_rfl) (fun _ _ _ h => h) (Or.inl ⟨by rfl, ?hc610⟩) (by assumption) ?rc610
    case hc610 => (intro w hSw; (try dsimp only at hSw); go_simp; try with_reducible rfl)
    try simp only [List.getElem_toArray, List.getElem_cons_zero, List.getElem_cons_succ, Act.put, List.setIfInBounds_toArray, List.set_cons_zero, List.set_cons_succ]
    refine wpAnyH_take (i := 11) (v := ?vc611) rfl (by kernel_rfl) (by kernel_rfl) (by kernel_rfl) (fun _ _ _ h => h) (Or.inl ⟨by rfl, ?hc611⟩) (by assumption) ?rc611
    case hc611 => (intro w hSw; (try dsimp only at hSw); go_simp; try with_reducible rfl)
    try simp only [List.getElem_toArray, List.getElem_cons_zero, List.getElem_cons_succ, Act.put, List.setIfInBounds_toArray, List.set_cons_zero, List.set_cons_succ]
    refine wpAnyH_take (i := 12) (v := ?vc612) rfl (by kernel_rfl) (by kernel_rfl) (by kernel_rfl) (fun _ _ _ h => h) (Or.inl ⟨by rfl, ?hc612⟩) (by assumption) ?rc612
    case hc612 => (intro w hSw; (try dsimp only at hSw); go_simp; try with_reducible rfl)
    try simp only [List.getElem_toArray, List.getElem_cons_zero, List.getElem_cons_succ, Act.put, List.setIfInBounds_toArray, List.set_cons_zero, List.set_cons_succ]
    refine wpAnyH_ready (rs := [13]) (by kernel_rfl) (by simp) ?_
    refine AllReadyH.cons rfl (fun K hK => ?_) AllReadyH.nil
    go_simp
    go_wp2_with (go_at_call 137; refine HEn.out.mono ?_; rintro e w2 ⟨rfl, hu2⟩
                 have r1 := hu2.cell r0 fun h => h
                 have q1 := hu2.cell q0 fun h => h
                 have xa1 := hu2.cell xa0 fun h => h
                 have xb1 := hu2.cell xb0 fun h => h
                 have ya1 := hu2.cell ya0 fun h => h
                 have yb1 := hu2.cell yb0 fun h => h
                 have HU2 := Lib.hid hu2
                 clear hu2 HEn)
    refine hK.out _ _ ⟨r1, q1, xa1, xb1, ya1, yb1⟩ (fun hS => ?_)
    clear hK K
    try simp only [List.getElem_toArray, List.getElem_cons_zero, List.getElem_cons_succ, Act.put, List.setIfInBounds_toArray, List.set_cons_zero, List.set_cons_succ]
    refine wpAnyH_take (i := 14) (v := ?vc614) rfl (by kernel_rfl) (by kernel_rfl) (by kernel_rfl) (fun _ _ _ h => h) (Or.inl ⟨by rfl, ?hc614⟩) (by assumption) ?rc614
    case hc614 => (intro w hSw; (try dsimp only at hSw); go_simp; try with_reducible rfl)
    try simp only [List.getElem_toArray, List.getElem_cons_zero, List.getElem_cons_succ, Act.put, List.setIfInBounds_toArray, List.set_cons_zero, List.set_cons_succ]
    refine wpAnyH_take (i := 15) (v := ?vc615) rfl (by kernel_rfl) (by kernel_rfl) (by kernel_rfl) (fun _ _ _ h => h) (Or.inl ⟨by rfl, ?hc615⟩) (by assumption) ?rc615
    case hc615 => (intro w hSw; (try dsimp only at hSw); go_simp; try with_reducible rfl)
    try simp only [List.getElem_toArray, List.getElem_cons_zero, List.getElem_cons_succ, Act.put, List.setIfInBounds_toArray, List.set_cons_zero, List.set_cons_succ]
    refine wpAnyH_take (i := 16) (v := ?vc616) rfl (by kernel_rfl) (by kernel_rfl) (by kernel_rfl) (fun _ _ _ h => h) (Or.inl ⟨by rfl, ?hc616⟩) (by assumption) ?rc616
    case hc616 => (intro w hSw; (try dsimp only at hSw); go_simp; try with_reducible rfl)
    try simp only [List.getElem_toArray, List.getElem_cons_zero, List.getElem_cons_succ, Act.put, List.setIfInBounds_toArray, List.set_cons_zero, List.set_cons_succ]
    refine wpAnyH_take (i := 17) (v := ?vc617) rfl (by kernel_rfl) (by kernel_rfl) (by kernel_rfl) (fun _ _ _ h => h) (Or.inl ⟨by rfl, ?hc617⟩) (by assumption) ?rc617
    case hc617 => (intro w hSw; (try dsimp only at hSw); go_simp; try with_reducible rfl)
    try simp only [List.getElem_toArray, List.getElem_cons_zero, List.getElem_cons_succ, Act.put, List.setIfInBounds_toArray, List.set_cons_zero, List.set_cons_succ]
    refine wpAnyH_take (i := 18) (v := ?vc618) rfl (by kernel_rfl) (by kernel_rfl) (by kernel_rfl) (fun _ _ _ h => h) (Or.inl ⟨by rfl, ?hc618⟩) (by assumption) ?rc618
    case hc618 => (intro w hSw; (try dsimp only at hSw); go_simp; try with_reducible rfl)
    try simp only [List.getElem_toArray, List.getElem_cons_zero, List.getElem_cons_succ, Act.put, List.setIfInBounds_toArray, List.set_cons_zero, List.set_cons_succ]
    refine wpAnyH_take (i := 19) (v := ?vc619) rfl (by kernel_rfl) (by kernel_rfl) (by kernel_rfl) (fun _ _ _ h => h) (Or.inl ⟨by rfl, ?hc619⟩) (by assumption) ?rc619
    case hc619 => (intro w hSw; (try dsimp only at hSw); go_simp; try with_reducible rfl)
    try simp only [List.getElem_toArray, List.getElem_cons_zero, List.getElem_cons_succ, Act.put, List.setIfInBounds_toArray, List.set_cons_zero, List.set_cons_succ]
    refine wpAnyH_take (i := 20) (v := ?vc620) rfl (by kernel_rfl) (by kernel_rfl) (by kernel_rfl) (fun _ _ _ h => h) (Or.inl ⟨by rfl, ?hc620⟩) (by assumption) ?rc620
    case hc620 => (intro w hSw; (try dsimp only at hSw); go_simp; try with_reducible rfl)
    try simp only [List.getElem_toArray, List.getElem_cons_zero, List.getElem_cons_succ, Act.put, List.setIfInBounds_toArray, List.set_cons_zero, List.set_cons_succ]
    refine wpAnyH_take (i := 21) (v := ?vc621) rfl (by kernel_rfl) (by kernel_rfl) (by kernel_rfl) (fun _ _ _ h => h) (Or.inl ⟨by rfl, ?hc621⟩) (by assumption) ?rc621
    case hc621 => (intro w hSw; (try dsimp only at hSw); go_simp; try with_reducible rfl)
    try simp only [List.getElem_toArray, List.getElem_cons_zero, List.getElem_cons_succ, Act.put, List.setIfInBounds_toArray, List.set_cons_zero, List.set_cons_succ]
    refine wpAnyH_take (i := 23) (v := ?vc623) rfl (by kernel_rfl) (by kernel_rfl) (by kernel_rfl) (fun _ _ _ h => h) (Or.inl ⟨by rfl, ?hc623⟩) (by assumption) ?rc623
    case hc623 => (intro w hSw; (try dsimp only at hSw); go_simp; try with_reducible rfl)
    try simp only [List.getElem_toArray, List.getElem_cons_zero, List.getElem_cons_succ, Act.put, List.setIfInBounds_toArray, List.set_cons_zero, List.set_cons_succ]
    refine wpAnyH_ready (rs := [22]) (by kernel_rfl) (by simp) ?_
    refine AllReadyH.cons rfl (fun K hK => ?_) AllReadyH.nil
    go_simp
    go_wp2_with (go_at_call 41; refine (HPA.out _).mono ?_; rintro e w3 ⟨rfl, hu3⟩
                 have r2 := hu3.cell r1 fun h => h
                 have q2 := hu3.cell q1 fun h => h
                 have xa2 := hu3.cell xa1 fun h => h
                 have xb2 := hu3.cell xb1 fun h => h
                 have ya2 := hu3.cell ya1 fun h => h
                 have yb2 := hu3.cell yb1 fun h => h
                 have HU3 := Lib.hid hu3
                 clear hu3 HPA)
    refine hK.out _ _ ⟨r2, q2, xa2, xb2, ya2, yb2⟩ (fun hS => ?_)
    clear hK K
    try simp only [List.getElem_toArray, List.getElem_cons_zero, List.getElem_cons_succ, Act.put, List.setIfInBounds_toArray, List.set_cons_zero, List.set_cons_succ]
    refine wpAnyH_ready (rs := [24]) (by kernel_rfl) (by simp) ?_
    refine AllReadyH.cons rfl (fun K hK => ?_) AllReadyH.nil
    go_simp
    go_wp2_with (go_at_call 41; refine (HPB.out _).mono ?_; rintro e w4 ⟨rfl, hu4⟩
                 have r3 := hu4.cell r2 fun h => h
                 have q3 := hu4.cell q2 fun h => h
                 have xa3 := hu4.cell xa2 fun h => h
                 have xb3 := hu4.cell xb2 fun h => h
                 have ya3 := hu4.cell ya2 fun h => h
                 have yb3 := hu4.cell yb2 fun h => h
                 have HU4 := Lib.hid hu4
                 clear hu4 HPB)
    refine hK.out _ _ ⟨r3, q3, xa3, xb3, ya3, yb3⟩ (fun hS => ?_)
    clear hK K
    try simp only [List.getElem_toArray, List.getElem_cons_zero, List.getElem_cons_succ, Act.put, List.setIfInBounds_toArray, List.set_cons_zero, List.set_cons_succ]
    refine wpAnyH_take (i := 25) (v := ?vc625) rfl (by kernel_rfl) (by kernel_rfl) (by kernel_rfl) (fun _ _ _ h => h) (Or.inl ⟨by rfl, ?hc625⟩) (by assumption) ?rc625
    case hc625 => (intro w hSw; (try dsimp only at hSw); go_simp; try with_reducible rfl)
    try simp only [List.getElem_toArray, List.getElem_cons_zero, List.getElem_cons_succ, Act.put, List.setIfInBounds_toArray, List.set_cons_zero, List.set_cons_succ]
    refine wpAnyH_take (i := 26) (v := ?vc626) rfl (by kernel_rfl) (by kernel_rfl) (by kernel_rfl) (fun _ _ _ h => h) (Or.inl ⟨by rfl, ?hc626⟩) (by assumption) ?rc626
    case hc626 => (intro w hSw; (try dsimp only at hSw); go_simp; try with_reducible rfl)
    try simp only [List.getElem_toArray, List.getElem_cons_zero, List.getElem_cons_succ, Act.put, List.setIfInBounds_toArray, List.set_cons_zero, List.set_cons_succ]
    refine wpAnyH_take (i := 27) (v := ?vc627) rfl (by kernel_rfl) (by kernel_rfl) (by kernel_rfl) (fun _ _ _ h => h) (Or.inl ⟨by rfl, ?hc627⟩) (by assumption) ?rc627
    case hc627 => (intro w hSw; (try dsimp only at hSw); go_simp; try with_reducible rfl)
    try simp only [List.getElem_toArray, List.getElem_cons_zero, List.getElem_cons_succ, Act.put, List.setIfInBounds_toArray, List.set_cons_zero, List.set_cons_succ]
    refine wpAnyH_done (by kernel_rfl) ?_ _
    have H2 := Lib.hid (HP0.out.quiet hT ((((Upd.refl (fun _ => False) _).drew.trans HU2.out).trans HU3.out).trans HU4.out))
    have hy0 : w4.cell? ⟨w.heap.size + 1, 0, none⟩ = some (.int .u32 (o2 : Int)) := cell_at (H2.out.at HX.out.2) 0
    have hy1 : w4.cell? ⟨w.heap.size + 1, 1, none⟩ = some (.int .u32 (lc2 : Int)) := cell_at (H2.out.at HX.out.2) 1
    have HSp := Lib.hid (v_spacePad hT H2.out o2 lc2 (by have := HB.out.2.2.2.2.2.2; omega))
    go_wp2_with (go_at_call 71; refine HSp.out.mono ?_; rintro e v5 ⟨rfl, h5⟩
                 have z0 : v5.cell? ⟨w.heap.size + 1, 0, none⟩ = some (.int .u32 (o2 : Int)) := cell_at (h5.at HX.out.2) 0
                 have z1 : v5.cell? ⟨w.heap.size + 1, 1, none⟩ = some (.int .u32 (lc2 : Int)) := cell_at (h5.at HX.out.2) 1
                 have HRp := Lib.hid (v_rightParen hT h5 o2 lc2 HB.out.2.1 HB.out.2.2.1 HB.out.2.2.2.1 HB.out.2.2.2.2.1 HB.out.2.2.2.2.2.1 (by
                   have h1 := HB.out.2.2.2.2.2.2
                   have h2 := spT_len ({ v with ws := 0 } : VS).ws
                   rw [List.length_append]
                   show _ + (mIndent v).length + 3 ≤ _
                   omega))
                 clear h5 HSp)
    go_wp2_with (go_at_call 114; refine HRp.out.mono ?_; rintro e v6 ⟨rfl, h6⟩
                 have H6 := Lib.hid h6
                 clear h6 HRp)
    go_wp2_with fail
    go_end0
    refine ⟨rfl, HSub.out.back _ _ _ (H6.out.cast ?_ (sRp_ws v _ _))⟩
    simp [spT, mRp_ws]
end
end Go.Proofs.YtmdkpihlhdjjaaaGreatFmt
