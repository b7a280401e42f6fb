/-
  A fresh Printer with Minify on or off prints a node into a strings.Builder: what it leaves; the builder's text.
-/
import Derived.Test.YtnhmgjgdkcgmfaaGreatFmtVp
import Derived.Test.YtnhmgjgdkcgmfaaGreatFmtSbS
import Derived.Test.YtnhmgjgdkcgmfaaGreatFmtShelf
import Derived.Test.YtnhmgjgdkcgmfaaGreatFmtNew
import Derived.Test.YtnhmgjgdkcgmfaaGreatFmtSame
namespace Go.Proofs.YtnhmgjgdkcgmfaaGreatFmt
open Go.RowKit

abbrev sbZ (b : Nat) : Sink := ⟨51, ⟨b, 0, none⟩, 220, fun _ => true, sbI b⟩

theorem new_mi (mi : Bool) (w : World) : Calls Tryz.prog 21 #[.slice (some ⟨w.heap.size + 1, 0, none⟩) 1 1] ((w.alloc (.cells #[.bool mi] 4)).alloc (.cells #[.func (.func 27) #[] #[.pointer (some ⟨w.heap.size, 0, none⟩)]] 59)) fun e w' =>
    ∃ pb, e = .returned (.pointer (some ⟨pb, 0, none⟩)) ∧ ∃ b tb O, PrAny pb b tb (optMi mi PS0) w' O ∧ (∀ k, O k → w.heap.size ≤ k) ∧ Upd (fun _ => False) w w' := by
  have hu : Upd (fun _ => False) w ((w.alloc (.cells #[.bool mi] 4)).alloc (.cells #[.func (.func 27) #[] #[.pointer (some ⟨w.heap.size, 0, none⟩)]] 59)) := ((Upd.refl _ w).alloc _).alloc _
  have hz : (w.alloc (.cells #[.bool mi] 4)).heap.size = w.heap.size + 1 := by simp
  have hv := heap_alloc_new (w.alloc (.cells #[.bool mi] 4)) (.cells #[.func (.func 27) #[] #[.pointer (some ⟨w.heap.size, 0, none⟩)]] 59)
  rw [hz] at hv
  have hb : ((w.alloc (.cells #[.bool mi] 4)).alloc (.cells #[.func (.func 27) #[] #[.pointer (some ⟨w.heap.size, 0, none⟩)]] 59)).heap[w.heap.size]? = some (.cells #[.bool mi] 4 (0, 0)) := (Below.heap_alloc _ _ _ (by simp)).trans (heap_alloc_new w _)
  have hn := new_printer [⟨27, w.heap.size, .bool mi, optMi mi⟩] (fun o ho => by
      rw [List.mem_singleton] at ho
      subst ho
      exact ⟨mi_opt _ _, fun args w => by kernel_rfl⟩) (w := (w.alloc (.cells #[.bool mi] 4)).alloc (.cells #[.func (.func 27) #[] #[.pointer (some ⟨w.heap.size, 0, none⟩)]] 59)) (a := w.heap.size + 1) (c := 1) (by simp) (fun j o hj => by
    rcases j with _ | j
    · simp only [List.getElem?_cons_zero, Option.some.injEq] at hj
      subst hj
      exact ⟨cell_at hv 0, cell_at hb 0⟩
    · simp at hj)
  refine Calls.mono hn ?_
  rintro e w2 ⟨pb, b, tb, O, rfl, hA, hO, hu2⟩
  exact ⟨pb, rfl, b, tb, O, hA, fun k hk => Nat.le_trans hu.size (hO k hk), hu.trans hu2⟩

/-- The empty builder. -/
theorem sb_zero {w : World} {k : Nat} (h : w.heap[k]? = some (.cells #[.pointer none, .slice none 0 0] 53 (0, 0))) : sbI k w (fun j => j = k) [] :=
  ⟨_, _, h, .inl rfl, Row.nil w, by simp [Value.ownBlock], fun j => by simp [Value.ownBlock]⟩

/-- The builder's text. -/
theorem sb_string {b B0 : Nat} {w : World} {F : Nat → Prop} {l : List UInt8} (h : sbI b w F l) (hF : ∀ k, F k → B0 ≤ k) (hz : B0 ≤ w.heap.size) :
    Calls Tryz.prog 24 #[.pointer (some ⟨b, 0, none⟩)] w fun e w' => e = .returned (.string ⟨l.toArray⟩) ∧ Upd (fun k => B0 ≤ k) w w' := by
  obtain ⟨p, v, hb, hp, hv, hn, hFv⟩ := h
  have hBu : Lib.IsBuilder 53 5 B0 b (Lib.byteCells l) w := by
    have hr : w.ownsRow B0 5 1 v (Lib.byteCells l).length (Lib.byteCells l) := by
      have h := hv.base fun k hk => hF k ((hFv k).2 (.inr hk))
      have e : (Lib.byteCells l).length = l.length := by simp [Lib.byteCells]
      rw [e]
      exact h
    rcases hp with rfl | rfl
    · exact .inl ⟨hF b ((hFv b).2 (.inl rfl)), v, hb, hr, hn⟩
    · exact .inr ⟨hF b ((hFv b).2 (.inl rfl)), v, hb, hr, hn⟩
  refine (Tryz.Builder_String_any B0 b l w hBu hz).mono ?_
  rintro e w' ⟨rfl, hB⟩
  exact ⟨rfl, ⟨hB.os, hB.tape, hB.output, hB.size, fun k hk hn => hB.block k (by omega)⟩⟩

/-- The state of a fresh Printer behind its reset. -/
def VS1 (mi : Bool) (L : Nat) : VS := { k := 0, bnl := false, swt := false, spr := false, mi := mi, si := false, fnl := false, ws := 2, wn := false, mn := false, sm := false, fl := !mi, ln := L, ll := 0, lv := 0, inc := [], nb := false }
theorem VS1_start (mi : Bool) (L : Nat) : (optMi mi PS0).start L = VS1 mi L := rfl
theorem PS1_fresh (mi : Bool) : (optMi mi PS0).Fresh := ⟨rfl, rfl, rfl, rfl, rfl⟩

/-- Print of a word part into an empty sink. -/
theorem pv_part {S : Sink} (hs : S.Law Tryz.prog 531) (hok : ∀ c, S.okb c = true) {pb b tb : Nat} {mi : Bool} {w0 w : World} {O Fs : Nat → Prop} {l : List UInt8} (h : PrAny pb b tb (optMi mi PS0) w O)
    (hI : S.I w Fs []) (hdF : ∀ k, O k → ¬ Fs k) (hO : ∀ k, O k → w0.heap.size ≤ k) (hFs : ∀ k, Fs k → w0.heap.size ≤ k) (hu0 : Upd (fun _ => False) w0 w) (hl : l.length + 1 ≤ LIM) {t : TypeId} {posf : FuncId} (ht : PartTy t posf) {nb o lc : Nat} (hlc : lc < 4294967296)
    (hpos : ∀ {T pb b tv B W v}, TOk T → (∀ k o, w0.heap[k]? = some o → B.At pb k o) → PX T pb b tv B W [] v → Calls Tryz.prog posf #[.pointer (some ⟨nb, 0, none⟩)] W fun e w' => e = .returned (posV o lc) ∧ Upd (fun _ => False) W w')
    (hmid : ∀ {T pb b tv B W}, TOk T → (∀ k o, w0.heap[k]? = some o → B.At pb k o) → PX T pb b tv B W [] (VS1 mi (lc / 16384)) → Calls Tryz.prog 37 #[.pointer (some ⟨pb, 0, none⟩), .iface t (.pointer (some ⟨nb, 0, none⟩)), .nilIface] W fun e w' => e = .returned (.tuple #[]) ∧ ∃ v', PX T pb b tv B w' l v') :
    Calls Tryz.prog 23 #[.pointer (some ⟨pb, 0, none⟩), .iface S.ty (.pointer (some S.ptr)), .iface t (.pointer (some ⟨nb, 0, none⟩))] w fun e w' => e = .returned .nilIface ∧ PrintV S O Fs l w w' := by
  obtain ⟨g, G, h, hO'⟩ := h
  obtain rfl : O = PrOwn pb b g tb G := funext fun k => propext (hO' k)
  have hcar : ∀ B, Carried w (PrOwn pb b g tb G) Fs pb B → ∀ k o, w0.heap[k]? = some o → B.At pb k o := fun B hB k o hk =>
    hB k o (hu0.heap hk fun h => h) (fun e => by have := hO k e; have := heap_lt hk; omega) (fun e => by have := hFs k e; have := heap_lt hk; omega)
  have hp : PvPos S pb b tb (PrOwn pb b g tb G) Fs w posf #[.pointer (some ⟨nb, 0, none⟩)] o lc := fun B W v hB hX => hpos (tw_ok hs hok tb 8 26) (hcar B hB) hX
  have hm : PvMid S pb b tb (PrOwn pb b g tb G) Fs w ((optMi mi PS0).start (lc / 16384)) 37 #[.pointer (some ⟨pb, 0, none⟩), .iface t (.pointer (some ⟨nb, 0, none⟩)), .nilIface] l := fun B W hB hX =>
    (hmid (tw_ok hs hok tb 8 26) (hcar B hB) hX).mono fun e w' ⟨he, hv⟩ => ⟨⟨_, he⟩, hv⟩
  cases mi
  · exact pv_part_n hs hok h rfl rfl rfl hI hdF hl (PS1_fresh _) ht hlc hp hm
  · exact pv_part_m hs hok h rfl rfl rfl rfl hI hdF hl (PS1_fresh _) ht hlc hp hm

set_option maxRecDepth 100000 in
set_option maxHeartbeats 4000000 in
/-- n010_150: a node is printed into a text. -/
theorem z_print (mi : Bool) {w : World} {l : List UInt8} {nd : Value}
    (hP : ∀ (S : Sink) (pb b tb : Nat) (w2 : World) (O Fs : Nat → Prop), S.Law Tryz.prog 531 → (∀ c, S.okb c = true) → PrAny pb b tb (optMi mi PS0) w2 O → S.I w2 Fs [] → (∀ k, O k → ¬ Fs k) → (∀ k, O k → w.heap.size ≤ k) → (∀ k, Fs k → w.heap.size ≤ k) → Upd (fun _ => False) w w2 →
      Calls Tryz.prog 23 #[.pointer (some ⟨pb, 0, none⟩), .iface S.ty (.pointer (some S.ptr)), nd] w2 fun e w' => e = .returned .nilIface ∧ PrintV S O Fs l w2 w') :
    Calls Tryz.prog 17 #[.bool mi, nd] w fun e w' => e = .returned (.tuple #[.string ⟨l.toArray⟩, .bool true]) ∧ Upd (fun _ => False) w w' := by
  obtain ⟨w1, hw1⟩ : ∃ w1, w1 = w.alloc (.cells #[.pointer none, .slice none 0 0] 53) := ⟨_, rfl⟩
  have hz1 : w1.heap.size = w.heap.size + 1 := by rw [hw1]; simp
  have hn := new_mi mi w1
  have hsb : sbI w.heap.size w1 (fun j => j = w.heap.size) [] := sb_zero (by rw [hw1]; exact heap_alloc_new w _)
  have hu1 : Upd (fun _ => False) w w1 := by rw [hw1]; exact (Upd.refl _ w).alloc _
  rw [hz1, hw1] at hn
  have HN := Lib.hid hn
  have HSb := Lib.hid (And.intro hsb hu1)
  have HZ := Lib.hid hz1
  have HPr := Lib.hid hP
  clear hn hsb hu1 hz1 hP
  go_enter Tryz.func17, Tryz.ntmps17
  go_wp2_with (first
    | (go_at_call 22; refine (mk_mi _ _).mono ?_; rintro e w2 ⟨rfl, rfl⟩)
    | (go_at_call 21; refine HN.out.mono ?_))
  rintro e w2 ⟨pb, rfl, b, tb, O, hA, hO, hu⟩
  have hu12 : Upd (fun _ => False) w1 w2 := by rw [hw1]; exact hu
  have hO1 : ∀ k, O k → w1.heap.size ≤ k := fun k hk => by rw [HZ.out]; exact hO k hk
  have hI2 : sbI w.heap.size w2 (fun j => j = w.heap.size) [] := (sb_law w.heap.size).stable HSb.out.1 hu12 fun _ _ h => h
  obtain ⟨Q, HQ, HC⟩ := callsVar (HPr.out (sbZ w.heap.size) pb b tb w2 O _ (sb_law _) (fun _ => rfl) hA hI2 (fun k hk e => by have := hO1 k hk; have := HZ.out; omega) (fun k hk => by have := hO1 k hk; have := HZ.out; omega) (fun k hk => by omega) (HSb.out.2.trans hu12))
  have HU := Lib.hid (And.intro (HSb.out.2.trans hu12) hO1)
  clear hA hO hu hu12 hO1 hI2 hw1
  go_wp2_with (go_at_call 23; refine HC.out.mono ?_)
  rintro e w3 hq
  obtain ⟨rfl, F3, hI3, hF3, hu3⟩ := HQ.out e w3 hq
  clear hq
  have h1 : Upd (fun k => w.heap.size ≤ k) w w3 := (HU.out.1.mono fun _ h => h.elim).trans (hu3.mono fun k hk => by
    rcases hk with h | h
    · have := HU.out.2 k h; have := HZ.out; omega
    · omega)
  have HSt := Lib.hid (fun W (hW : Upd (fun _ => False) w3 W) => sb_string (B0 := w.heap.size) ((sb_law w.heap.size).stable hI3 hW fun _ _ h => h) (fun k hk => by
    rcases hF3 k hk with (h | h) | h
    · have := HU.out.2 k h; have := HZ.out; omega
    · omega
    · have := HU.out.1.size; omega) (Nat.le_trans h1.size hW.size))
  have HU3 := Lib.hid h1
  clear hI3 hF3 hu3 h1
  go_wp2_with fail
  go_region_held3 (fun _ => True) (exact trivial)
    (first | (go_at_call 24; refine (HSt.out _ (Upd.refl _ _).drew).mono ?_; rintro e w4 ⟨rfl, hu4⟩; have HU4 := Lib.hid hu4; clear hu4))
  go_wp2
  go_ret2
  exact ⟨rfl, ((HU3.out.trans (Upd.refl _ w3).drew).trans HU4.out).strict fun k hk => hk⟩

/-- A word part is printed into a text. -/
theorem z_part (mi : Bool) {w : World} {l : List UInt8} (hl : l.length + 1 ≤ LIM) {t : TypeId} {posf : FuncId} (ht : PartTy t posf) {nb o lc : Nat} (hlc : lc < 4294967296)
    (hpos : ∀ {T pb b tv B W v}, TOk T → (∀ k o, w.heap[k]? = some o → B.At pb k o) → PX T pb b tv B W [] v → Calls Tryz.prog posf #[.pointer (some ⟨nb, 0, none⟩)] W fun e w' => e = .returned (posV o lc) ∧ Upd (fun _ => False) W w')
    (hmid : ∀ {T pb b tv B W}, TOk T → (∀ k o, w.heap[k]? = some o → B.At pb k o) → PX T pb b tv B W [] (VS1 mi (lc / 16384)) → Calls Tryz.prog 37 #[.pointer (some ⟨pb, 0, none⟩), .iface t (.pointer (some ⟨nb, 0, none⟩)), .nilIface] W fun e w' => e = .returned (.tuple #[]) ∧ ∃ v', PX T pb b tv B w' l v') :
    Calls Tryz.prog 17 #[.bool mi, .iface t (.pointer (some ⟨nb, 0, none⟩))] w fun e w' => e = .returned (.tuple #[.string ⟨l.toArray⟩, .bool true]) ∧ Upd (fun _ => False) w w' :=
  z_print mi fun _ _ _ _ _ _ _ hs hok hA hI hd hO hF hu => pv_part hs hok hA hI hd hO hF hu hl ht hlc (fun h1 h2 h3 => hpos h1 h2 h3) (fun h1 h2 h3 => hmid h1 h2 h3)
end Go.Proofs.YtnhmgjgdkcgmfaaGreatFmt
