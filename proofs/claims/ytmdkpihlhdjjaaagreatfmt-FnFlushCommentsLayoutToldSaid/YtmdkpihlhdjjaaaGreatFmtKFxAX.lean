/-
  The Printer with comments to print: its cells with the slice of them, its writer plain or behind the column counter.
  What flushComments prints: each comment's leader and text, and the state behind it. No program in sight but in the names of the cells.
  n010_157.FnFlushCommentsLayout: what the state behind the comments holds. No program in sight.
-/
import Derived.Test.YtmdkpihlhdjjaaaGreatFmtKCaX
import Derived.Test.YtmdkpihlhdjjaaaGreatFmtKMaX
import Derived.Test.YtmdkpihlhdjjaaaGreatFmtKWdX
import Derived.Laws.BitsAllLaws
import Derived.Deep.LoopGhost
import Derived.Test.YtmdkpihlhdjjaaaGreatFmtKCc
import Derived.Shelf.Strings.FuncGrows
namespace Go.Proofs.YtmdkpihlhdjjaaaGreatFmt
open Go.RowKit

/-- The Printer's cells: pc is the slice of comments, kp whether the column counter stands before the writer. -/
def fxC (pb b : Nat) (kp : Bool) (cc : Int) (cl : Bool) (v : VS) (h : VH) (pc : Value) : Array Value :=
  #[if kp then .iface 281 (.pointer (some ⟨pb, 2, none⟩)) else .iface 71 (.pointer (some ⟨b, 0, none⟩)), .pointer none, if kp then .pointer (some ⟨b, 0, none⟩) else .pointer none, .int .i64 cc, .bool cl,
    .int .u64 (v.k : Int), .bool v.bnl, .bool v.swt, .bool v.spr, .bool kp, .bool v.mi, .bool v.si, .bool v.fnl, .int .u8 (v.ws : Int), .bool v.wn, .bool v.mn, .bool v.sm, pc, .bool v.fl, .int .u64 (v.ln : Int), .int .u64 (v.ll : Int), .int .u64 (v.lv : Int),
    .slice h.lia v.inc.length h.lic, .bool v.nb, .slice h.pha 0 h.phc, h.tp]

/-- l has been written, the state is v; cl: the column counter's flag, cc its column. -/
structure FXr (T : Sink) (pb b : Nat) (kp : Bool) (pc : Value) (B : Base) (w : World) (F : Nat → Prop) (h : VH) (cc : Int) (l : List UInt8) (v : VS) (cl : Bool) : Prop where
  cell : w.heap[pb]? = some (.cells (fxC pb b kp cc cl v h pc) 92 (0, 0))
  buf : BufW T b w F l
  np : ¬ F pb
  lev : w.ownsRow 0 4 1 (h.lev v.inc) v.inc.length (v.inc.map .bool)
  ld : ∀ k, (h.lev v.inc).ownBlock = some k → (k ≠ pb ∧ ¬ F k) ∧ (B.F0 k ∨ B.w0.heap.size ≤ k)
  fr : ∀ k, F k → B.F0 k ∨ B.w0.heap.size ≤ k
  upd : Upd (fun k => k = pb ∨ B.F0 k) B.w0 w

def FX (T : Sink) (pb b : Nat) (kp : Bool) (K : Nat) (pc : Value) (B : Base) (w : World) (l : List UInt8) (v : VS) (cl : Bool) : Prop :=
  ∃ F h cc, FXr T pb b kp pc B w F h cc l v cl ∧ 0 ≤ cc ∧ cc ≤ ((K + l.length : Nat) : Int) ∧ (kp = false → cc = 0 ∧ cl = false)

/-- What a byte makes of the flag. -/
def addB (cl : Bool) (c : UInt8) : Bool := if c = 10 then true else if c = 9 ∨ c = 32 ∨ c = 255 then cl else false
def clOf (kp cl : Bool) (d : List UInt8) : Bool := if kp then d.foldl addB cl else cl
/-- spacePad ahead of the first column: what it writes, and the state of the space. -/
def cpT (cl : Bool) (v : VS) : List UInt8 := if cl && decide (v.k = 0) then [] else spT v.ws
def cpW (cl : Bool) (v : VS) : Nat := if cl && decide (v.k = 0) then v.ws else spW v.ws

theorem clOf_append (kp cl : Bool) (d e : List UInt8) : clOf kp cl (d ++ e) = clOf kp (clOf kp cl d) e := by
  cases kp <;> simp [clOf]
theorem clOf_nil (kp cl : Bool) : clOf kp cl [] = cl := by cases kp <;> rfl

section
variable {T : Sink} {pb b : Nat} {kp : Bool} {K : Nat} {pc : Value} {B : Base} {w w' : World} {F : Nat → Prop} {h : VH} {cc : Int} {l : List UInt8} {v : VS} {cl : Bool}
theorem FXr.at (x : FXr T pb b kp pc B w F h cc l v cl) {k : Nat} {o : Obj} (hA : B.At pb k o) : w.heap[k]? = some o ∧ k ≠ pb ∧ ¬ F k :=
  ⟨x.upd.heap hA.1 fun e => e.elim hA.2.1 hA.2.2, hA.2.1, fun e => by
    rcases x.fr k e with h1 | h1
    · exact hA.2.2 h1
    · have := heap_lt hA.1
      omega⟩
theorem FX.at (x : FX T pb b kp K pc B w l v cl) {k : Nat} {o : Obj} (hA : B.At pb k o) : w.heap[k]? = some o := by
  obtain ⟨F, h, cc, x, _⟩ := x
  exact (x.at hA).1
theorem FXr.cells (hT : TOk T) (x : FXr T pb b kp pc B w F h cc l v cl) {pc' : Value} {h' : VH} {cc' : Int} {v' : VS} {cl' : Bool} (hc : w'.heap[pb]? = some (.cells (fxC pb b kp cc' cl' v' h' pc') 92 (0, 0))) (hu : Upd (fun k => k = pb) w w') (hh : h'.lia = h.lia ∧ h'.lic = h.lic) (hi : v'.inc = v.inc) : FXr T pb b kp pc' B w' F h' cc' l v' cl' := by
  have e : h'.lev v'.inc = h.lev v.inc := by simp only [VH.lev, hh.1, hh.2, hi]
  refine ⟨hc, x.buf.stable hT.law hu fun k hk e => x.np (e ▸ hk), x.np, ?_, ?_, x.fr, x.upd.trans (hu.mono fun k hk => .inl hk)⟩
  · rw [e, hi]
    exact ownsRow_stable x.lev hu fun k hk e => (x.ld k hk).1.1 e
  · rw [e]
    exact x.ld
theorem FXr.quiet (hT : TOk T) (x : FXr T pb b kp pc B w F h cc l v cl) (hu : Upd (fun _ => False) w w') : FXr T pb b kp pc B w' F h cc l v cl :=
  ⟨hu.heap x.cell fun h => h, x.buf.stable hT.law hu fun _ _ h => h, x.np, ownsRow_stable x.lev hu fun _ _ h => h, x.ld, x.fr, x.upd.trans (hu.mono fun _ hk => hk.elim)⟩
theorem FXr.wrote (x : FXr T pb b kp pc B w F h cc l v cl) {F' : Nat → Prop} {l' : List UInt8} (hb : BufW T b w' F' l') (hF : ∀ k, F' k → F k ∨ w.heap.size ≤ k) (hu : Upd F w w') : FXr T pb b kp pc B w' F' h cc l' v cl := by
  have hlt := heap_lt x.cell
  refine ⟨hu.heap x.cell x.np, hb, fun e => (hF pb e).elim x.np fun h => by omega, ownsRow_stable x.lev hu fun k hk e => (x.ld k hk).1.2 e, fun k hk => ?_, fun k hk => ?_, x.upd.trans' hu fun k hk => (x.fr k hk).imp (fun h => .inr h) id⟩
  · obtain ⟨⟨h1, h2⟩, h3⟩ := x.ld k hk
    refine ⟨⟨h1, fun e => ?_⟩, h3⟩
    rcases hF k e with h4 | h4
    · exact h2 h4
    · have := (x.lev.lt k hk).2
      omega
  · rcases hF k hk with h1 | h1
    · exact x.fr k h1
    · exact .inr (Nat.le_trans x.upd.size h1)
theorem FX.quiet (hT : TOk T) (x : FX T pb b kp K pc B w l v cl) (hu : Upd (fun _ => False) w w') : FX T pb b kp K pc B w' l v cl := by
  obtain ⟨F, h, cc, x, y⟩ := x
  exact ⟨F, h, cc, x.quiet hT hu, y⟩
theorem FX.setc (hT : TOk T) (x : FX T pb b kp K pc B w l v cl) {i : Nat} {val : Value} (v' : VS) (he : ∀ h cc, (fxC pb b kp cc cl v h pc).setIfInBounds i val = fxC pb b kp cc cl v' h pc) (hi : v'.inc = v.inc) : FX T pb b kp K pc B (w.setCell ⟨pb, i, none⟩ val) l v' cl := by
  obtain ⟨F, h, cc, x, y⟩ := x
  exact ⟨F, h, cc, x.cells hT ((heap_setCell_at _ x.cell).trans (by rw [he])) ((Upd.refl (fun k => k = pb) w).setCell (p := ⟨pb, i, none⟩) (.inl rfl) _) ⟨rfl, rfl⟩ hi, y⟩
theorem FX.setpc (hT : TOk T) (x : FX T pb b kp K pc B w l v cl) (pc' : Value) : FX T pb b kp K pc' B (w.setCell ⟨pb, 17, none⟩ pc') l v cl := by
  obtain ⟨F, h, cc, x, y⟩ := x
  exact ⟨F, h, cc, x.cells hT ((heap_setCell_at _ x.cell).trans rfl) ((Upd.refl (fun k => k = pb) w).setCell (p := ⟨pb, 17, none⟩) (.inl rfl) _) ⟨rfl, rfl⟩ rfl, y⟩
theorem FX.get (x : FX T pb b kp K pc B w l v cl) (i : Nat) {val : Option Value} (hv : ∀ h cc, (fxC pb b kp cc cl v h pc)[i]? = val) : w.cell? ⟨pb, i, none⟩ = val := by
  obtain ⟨F, h, cc, x, _⟩ := x
  exact (cell_at x.cell i).trans (hv h cc)
theorem FX.fz (x : FX T pb b kp K pc B w l v cl) (i : Nat) : w.frozen? ⟨pb, i, none⟩ = false := by
  obtain ⟨F, h, cc, x, _⟩ := x
  exact frozen_at x.cell i
theorem FX.lt (x : FX T pb b kp K pc B w l v cl) : pb < w.heap.size := by
  obtain ⟨F, h, cc, x, _⟩ := x
  exact heap_lt x.cell
theorem FX.cast (x : FX T pb b kp K pc B w l v cl) {l' : List UInt8} {v' : VS} {cl' : Bool} (hl : l = l') (hv : v = v') (hc : cl = cl') : FX T pb b kp K pc B w l' v' cl' := by
  subst hl hv hc
  exact x
theorem FX.c0n (x : FX T pb b false K pc B w l v cl) : w.cell? ⟨pb, 0, none⟩ = some (.iface 71 (.pointer (some ⟨b, 0, none⟩))) := x.get 0 fun _ _ => rfl
theorem FX.c0c (x : FX T pb b true K pc B w l v cl) : w.cell? ⟨pb, 0, none⟩ = some (.iface 281 (.pointer (some ⟨pb, 2, none⟩))) := x.get 0 fun _ _ => rfl
theorem FX.c2c (x : FX T pb b true K pc B w l v cl) : w.cell? ⟨pb, 2, none⟩ = some (.pointer (some ⟨b, 0, none⟩)) := x.get 2 fun _ _ => rfl
theorem FX.c3n (x : FX T pb b false K pc B w l v cl) : w.cell? ⟨pb, 3, none⟩ = some (.int .i64 0) := by
  obtain ⟨F, h, cc, x, _, _, y⟩ := x
  rw [← (y rfl).1]
  exact (cell_at x.cell 3).trans rfl
theorem FX.c3c (x : FX T pb b kp K pc B w l v cl) : ∃ cc, 0 ≤ cc ∧ cc ≤ ((K + l.length : Nat) : Int) ∧ w.cell? ⟨pb, 3, none⟩ = some (.int .i64 cc) := by
  obtain ⟨F, h, cc, x, y1, y2, _⟩ := x
  exact ⟨cc, y1, y2, (cell_at x.cell 3).trans rfl⟩
theorem FX.cl0 (x : FX T pb b false K pc B w l v cl) : cl = false := by
  obtain ⟨F, h, cc, x, _, _, y⟩ := x
  exact (y rfl).2
theorem FX.c4 (x : FX T pb b kp K pc B w l v cl) : w.cell? ⟨pb, 4, none⟩ = some (.bool cl) := x.get 4 fun _ _ => rfl
theorem FX.c5 (x : FX T pb b kp K pc B w l v cl) : w.cell? ⟨pb, 5, none⟩ = some (.int .u64 (v.k : Int)) := x.get 5 fun _ _ => rfl
theorem FX.c9 (x : FX T pb b kp K pc B w l v cl) : w.cell? ⟨pb, 9, none⟩ = some (.bool kp) := x.get 9 fun _ _ => rfl
theorem FX.c10 (x : FX T pb b kp K pc B w l v cl) : w.cell? ⟨pb, 10, none⟩ = some (.bool v.mi) := x.get 10 fun _ _ => rfl
theorem FX.c11 (x : FX T pb b kp K pc B w l v cl) : w.cell? ⟨pb, 11, none⟩ = some (.bool v.si) := x.get 11 fun _ _ => rfl
theorem FX.c13 (x : FX T pb b kp K pc B w l v cl) : w.cell? ⟨pb, 13, none⟩ = some (.int .u8 (v.ws : Int)) := x.get 13 fun _ _ => rfl
theorem FX.c14 (x : FX T pb b kp K pc B w l v cl) : w.cell? ⟨pb, 14, none⟩ = some (.bool v.wn) := x.get 14 fun _ _ => rfl
theorem FX.c15 (x : FX T pb b kp K pc B w l v cl) : w.cell? ⟨pb, 15, none⟩ = some (.bool v.mn) := x.get 15 fun _ _ => rfl
theorem FX.c16 (x : FX T pb b kp K pc B w l v cl) : w.cell? ⟨pb, 16, none⟩ = some (.bool v.sm) := x.get 16 fun _ _ => rfl
theorem FX.c17 (x : FX T pb b kp K pc B w l v cl) : w.cell? ⟨pb, 17, none⟩ = some pc := x.get 17 fun _ _ => rfl
theorem FX.c18 (x : FX T pb b kp K pc B w l v cl) : w.cell? ⟨pb, 18, none⟩ = some (.bool v.fl) := x.get 18 fun _ _ => rfl
theorem FX.c19 (x : FX T pb b kp K pc B w l v cl) : w.cell? ⟨pb, 19, none⟩ = some (.int .u64 (v.ln : Int)) := x.get 19 fun _ _ => rfl
theorem FX.c20 (x : FX T pb b kp K pc B w l v cl) : w.cell? ⟨pb, 20, none⟩ = some (.int .u64 (v.ll : Int)) := x.get 20 fun _ _ => rfl
theorem FX.c21 (x : FX T pb b kp K pc B w l v cl) : w.cell? ⟨pb, 21, none⟩ = some (.int .u64 (v.lv : Int)) := x.get 21 fun _ _ => rfl
theorem FX.c24 (x : FX T pb b kp K pc B w l v cl) : ∃ a c, w.cell? ⟨pb, 24, none⟩ = some (.slice a 0 c) := by
  obtain ⟨F, h, cc, x, _⟩ := x
  exact ⟨_, _, (cell_at x.cell 24).trans rfl⟩

/-- A later beginning: all that lay apart from the Printer stays apart. -/
theorem FX.base (hT : TOk T) (x : FX T pb b kp K pc B w l v cl) (hu : Upd (fun _ => False) w w') : ∃ B' : Base, FX T pb b kp K pc B' w' l v cl ∧ (∀ K2 pc2 w2 l2 v2 cl2, FX T pb b kp K2 pc2 B' w2 l2 v2 cl2 → FX T pb b kp K2 pc2 B w2 l2 v2 cl2) ∧ (∀ k o, B.At pb k o → B'.At pb k o) ∧ ∀ k o, w.heap.size ≤ k → w'.heap[k]? = some o → B'.At pb k o := by
  obtain ⟨F, h, cc, x, y⟩ := x
  have hx := x.quiet hT hu
  have hz := hu.size
  have hfl : ∀ k, F k → k < w.heap.size := x.buf.lt hT.law
  refine ⟨⟨w', fun k => F k ∨ (h.lev v.inc).ownBlock = some k⟩, ⟨F, h, cc, ⟨hx.cell, hx.buf, hx.np, hx.lev, fun k hk => ⟨(x.ld k hk).1, .inl (.inr hk)⟩, fun k hk => .inl (.inl hk), Upd.refl _ _⟩, y⟩, ?_, ?_, ?_⟩
  · rintro K2 pc2 w2 l2 v2 cl2 ⟨F2, h2, cc2, z, z1⟩
    have hz2 : B.w0.heap.size ≤ w'.heap.size := Nat.le_trans x.upd.size hz
    have hb : ∀ k, (F k ∨ (h.lev v.inc).ownBlock = some k) ∨ w'.heap.size ≤ k → B.F0 k ∨ B.w0.heap.size ≤ k := fun k hk => by
      rcases hk with (hk | hk) | hk
      · exact x.fr k hk
      · exact (x.ld k hk).2
      · exact .inr (Nat.le_trans hz2 hk)
    refine ⟨F2, h2, cc2, ⟨z.cell, z.buf, z.np, z.lev, fun k hk => ⟨(z.ld k hk).1, hb k (z.ld k hk).2⟩, fun k hk => hb k (z.fr k hk), ?_⟩, z1⟩
    refine (x.upd.trans (hu.mono fun _ h => h.elim)).trans' z.upd fun k hk => ?_
    rcases hk with h1 | h1
    · exact .inl (.inl h1)
    · exact (hb k (.inl h1)).imp (fun h => .inr h) id
  · intro k o hA
    obtain ⟨h1, h2, h3⟩ := x.at hA
    refine ⟨hu.heap h1 fun h => h, h2, fun e => ?_⟩
    rcases e with e | e
    · exact h3 e
    · rcases (x.ld k e).2 with h4 | h4
      · exact hA.2.2 h4
      · have := heap_lt hA.1
        omega
  · intro k o hk ho
    refine ⟨ho, ?_, ?_⟩
    · rintro rfl
      have := heap_lt x.cell
      omega
    · rintro (e | e)
      · have := hfl k e
        omega
      · have := (x.lev.lt k e).2
        omega

/-- A Printer without comments gets some. -/
theorem PX.fx (hT : TOk T) (x : PX T pb b (.pointer none) B w l v) (pc : Value) : FX T pb b false 0 pc B (w.setCell ⟨pb, 17, none⟩ pc) l v false := by
  obtain ⟨F, h, x⟩ := x
  have hc := heap_setCell_at (i := 17) pc x.cell
  have hu : Upd (fun k => k = pb) w (w.setCell ⟨pb, 17, none⟩ pc) := (Upd.refl (fun k => k = pb) w).setCell (p := ⟨pb, 17, none⟩) (.inl rfl) _
  exact ⟨F, h, 0, ⟨hc, x.buf.stable hT.law hu fun k hk e => x.np (e ▸ hk), x.np, ownsRow_stable x.lev hu fun k hk e => (x.ld k hk).1.1 e, x.ld, x.fr, x.upd.trans (hu.mono fun k hk => .inl hk)⟩, by omega, by omega, fun _ => ⟨rfl, rfl⟩⟩
theorem PX.fxk (x : PX T pb b (.pointer none) B w l v) (hpc : w.cell? ⟨pb, 17, none⟩ = some (.slice none 0 0)) : FX T pb b false 0 (.slice none 0 0) B w l v false := by
  obtain ⟨F, h, x⟩ := x
  have h17 := (x.cell.at 17).symm.trans hpc
  have ea : h.pca = none ∧ h.pcc = 0 := by
    have e : some (Value.slice h.pca 0 h.pcc) = some (Value.slice none 0 0) := h17
    injection e with e
    injection e with e1 _ e3
    exact ⟨e1, e3⟩
  have hc : w.heap[pb]? = some (.cells (fxC pb b false 0 false v h (.slice none 0 0)) 92 (0, 0)) := by
    have h1 := x.cell
    unfold PCell at h1
    rw [h1]
    show some (Obj.cells (PS.cells _ _ _ _) _ _) = _
    simp only [PS.cells, VS.ps, fxC, ea.1, ea.2]
    rfl
  exact ⟨F, h, 0, ⟨hc, x.buf, x.np, x.lev, x.ld, x.fr, x.upd⟩, by omega, by omega, fun _ => ⟨rfl, rfl⟩⟩
/-- .. and none are left. -/
theorem FX.px (x : FX T pb b false K (.slice none 0 0) B w l v cl) : PX T pb b (.pointer none) B w l v := by
  obtain ⟨F, h, cc, x, _, _, y⟩ := x
  obtain ⟨rfl, rfl⟩ := y rfl
  exact ⟨F, { h with pca := none, pcc := 0 }, ⟨x.cell, x.buf, x.np, x.lev, x.ld, x.fr, x.upd⟩⟩
end

theorem ext_one (s : ByteArray) (i : Nat) (hi : i < s.size) : (s.extract i (i + 1)).toList = [s.data.toList[i]'hi] := by
  rw [ByteArray.toList_eq]
  simp only [ByteArray.data_extract, Array.toList_extract, List.extract_eq_take_drop]
  have h : i + 1 - i = 1 := by omega
  rw [h, List.drop_eq_getElem_cons (show i < s.data.toList.length from hi)]
  rfl

set_option maxRecDepth 100000 in
set_option maxHeartbeats 1000000 in
/-- One byte that the text holds is found. -/
theorem zz_index_yes (s : ByteArray) (c : UInt8) (h : c ∈ s.data.toList) (hs : s.size ≤ 1099511627776) (w : World) :
    Calls Tryz.prog 168 #[.string s, .string ⟨#[c]⟩] w fun e w' => ∃ i : Nat, e = .returned (.int .i64 (i : Int)) ∧ w = w' := by
  obtain ⟨n, hn, hat, hbefore⟩ : ∃ n, ∃ hn : n < s.size, s.data.toList[n]'hn = c ∧ ∀ i (hi : i < n), s.data.toList[i]'(by have : s.data.toList.length = s.size := rfl; omega) ≠ c := by
    have h1 : ∃ x ∈ s.data.toList, (x == c) = true := ⟨c, h, by simp⟩
    have h2 := List.findIdx_lt_length_of_exists h1
    refine ⟨s.data.toList.findIdx (· == c), h2, by simpa using List.findIdx_getElem (w := h2), fun i hi => ?_⟩
    have := List.not_of_lt_findIdx hi
    simpa using this
  have hsz : (s.size : Int) ≤ 1099511627776 := by omega
  have hone : (ByteArray.mk #[c]).size = 1 := rfl
  have hne : ∀ i, i < n → ((s.extract i (i + 1)).toList == [c]) = false := fun i hi => by
    rw [ext_one s i (by omega), beq_eq_false_iff_ne]
    intro e
    exact hbefore i hi (List.cons.inj e).1
  have heq : ((s.extract n (n + 1)).toList == [c]) = true := by
    rw [ext_one s n hn, hat]
    simp
  have HNe := Lib.hid (And.intro hne (And.intro heq hn))
  clear h hne heq hat hbefore hn
  go_enter Tryz.func168, Tryz.ntmps168
  go_wp2_with fail
  go_loopg [5] (n + 1) (fun k v5 wr => ∃ i : Nat, v5 = .int .i64 (i : Int) ∧ i + k = n + 1 ∧ 1 ≤ k ∧ w = wr)
  case atStart => exact ⟨0, rfl, by omega, by omega, rfl⟩
  case round =>
    obtain ⟨i, rfl, hik, hk1, rfl⟩ := hrel
    have HIK := Lib.hid (And.intro hik hk1)
    clear hik hk1
    have hlt : (i : Int) + 1 ≤ (s.size : Int) := by have h1 := HIK.out; have h2 := HNe.out.2.2; omega
    by_cases hin : i = n
    · subst hin
      have heq := HNe.out.2.1
      go_wp2
      go_ret
      exact ⟨i, rfl, rfl⟩
    · have hne := HNe.out.1 i (by have h1 := HIK.out; omega)
      have HIn := Lib.hid hin
      clear hin
      go_wp2
      go_roundg (gk - 1)
      case measure => have := HIK.out; omega
      case rel => exact ⟨i + 1, by go_num, by have := HIK.out; omega, by have h1 := HIK.out; have h2 := HIn.out; omega, rfl⟩

set_option maxRecDepth 100000 in
theorem zz_contains_yes (s : ByteArray) (c : UInt8) (h : c ∈ s.data.toList) (hs : s.size ≤ 1099511627776) (w : World) :
    Calls Tryz.prog 143 #[.string s, .string ⟨#[c]⟩] w fun e w' => e = .returned (.bool true) ∧ w = w' := by
  have H := Lib.hid (zz_index_yes s c h hs w)
  clear h
  go_enter Tryz.func143, Tryz.ntmps143
  go_wp2_with (go_at_call 168; refine H.out.mono ?_; rintro e w1 ⟨i, rfl, rfl⟩)
  go_ret
  exact ⟨rfl, rfl⟩

set_option maxRecDepth 100000 in
theorem pos_col1 (o lc : Nat) (h : lc < 4294967296) (h1 : lc % 16384 = 1) (w : World) : Calls Tryz.prog 132 #[posV o lc] w fun e w' => e = .returned (.int .u64 1) ∧ Upd (fun _ => False) w w' := by
  have hb : bits .and .u32 (lc : Int) 16383 = 1 := by
    have h2 := u32_and_nat lc 16383 h (by omega)
    rw [show lc &&& 16383 = lc % 16384 from Nat.and_two_pow_sub_one_eq_mod lc 14, h1] at h2
    exact h2
  clear h h1
  go_enter Tryz.func132, Tryz.ntmps132
  go_wp2
  go_ret
  exact ⟨rfl, (Upd.refl _ w).alloc _⟩
end Go.Proofs.YtmdkpihlhdjjaaaGreatFmt

namespace Go.Proofs.YtmdkpihlhdjjaaaGreatFmt
open Go.RowKit

def litB (t : List UInt8) : List UInt8 := if 9 ∈ t then [255] ++ t ++ [255] else t
def trimB (t : ByteArray) : ByteArray := Lib.trimRightF Lib.isSpaceR t
def fcBrk (v : VS) (i L : Nat) : Bool := v.mn || decide (0 < i) || (decide (v.ln < L) && decide (0 < v.ln))
def fcLead (kp cl : Bool) (v : VS) (i L : Nat) : List UInt8 :=
  if fcBrk v i L then [10] ++ (if v.ln + 1 < L then [10] else []) ++ mIndent v
  else if v.ws = 1 then (if kp then cpT cl v else [9]) else if v.ws = 2 then [] else [32]
def fcV (kp cl : Bool) (v : VS) (i L : Nat) : VS :=
  if fcBrk v i L then { sIndent v with ws := 2 }
  else if v.ws = 1 then (if kp then { v with ws := cpW cl v } else v) else { v with ws := 2 }
def fcT (kp cl : Bool) (v : VS) (i L : Nat) (t : List UInt8) : List UInt8 := fcLead kp cl v i L ++ [35] ++ litB t
def fcS (kp cl : Bool) (v : VS) (i L : Nat) : VS := { fcV kp cl v i L with fl := false, ln := max v.ln L, wn := true, mn := true }
def fcAll (kp : Bool) : Bool → VS → Nat → List (Nat × ByteArray) → List UInt8 × VS × Bool
  | cl, v, _, [] => ([], v, cl)
  | cl, v, i, c :: r => (fcT kp cl v i c.1 (trimB c.2).data.toList ++ (fcAll kp (clOf kp cl (fcT kp cl v i c.1 (trimB c.2).data.toList)) (fcS kp cl v i c.1) (i + 1) r).1,
      (fcAll kp (clOf kp cl (fcT kp cl v i c.1 (trimB c.2).data.toList)) (fcS kp cl v i c.1) (i + 1) r).2)
theorem fcAll_snoc (kp : Bool) (c : Nat × ByteArray) : ∀ (a : List (Nat × ByteArray)) (cl : Bool) (v : VS) (i : Nat) (t : List UInt8) (v1 : VS) (cl1 : Bool), fcAll kp cl v i a = (t, v1, cl1) →
    fcAll kp cl v i (a ++ [c]) = (t ++ fcT kp cl1 v1 (i + a.length) c.1 (trimB c.2).data.toList, fcS kp cl1 v1 (i + a.length) c.1, clOf kp cl1 (fcT kp cl1 v1 (i + a.length) c.1 (trimB c.2).data.toList))
  | [], cl, v, i, t, v1, cl1, h => by
    simp only [fcAll, Prod.mk.injEq] at h
    obtain ⟨rfl, rfl, rfl⟩ := h
    simp [fcAll]
  | d :: a, cl, v, i, t, v1, cl1, h => by
    simp only [fcAll, Prod.mk.injEq] at h
    obtain ⟨h1, h2⟩ := h
    have h3 := fcAll_snoc kp c a _ _ _ (fcAll kp (clOf kp cl (fcT kp cl v i d.1 (trimB d.2).data.toList)) (fcS kp cl v i d.1) (i + 1) a).1 v1 cl1 (Prod.ext rfl h2)
    have e : i + 1 + a.length = i + (d :: a).length := by simp; omega
    rw [e] at h3
    show fcAll kp cl v i (d :: (a ++ [c])) = _
    simp only [fcAll, h3, ← h1, List.append_assoc]

theorem fcS_k (kp cl : Bool) (v : VS) (i L : Nat) : (fcS kp cl v i L).k = v.k ∧ (fcS kp cl v i L).lv = v.lv ∧ (fcS kp cl v i L).mi = v.mi ∧ (fcS kp cl v i L).inc = v.inc ∧ (fcS kp cl v i L).mn = true := by
  unfold fcS fcV sIndent
  refine ⟨?_, ?_, ?_, ?_, rfl⟩ <;> (split <;> (try split) <;> (try split) <;> rfl)
theorem fcV_k (kp cl : Bool) (v : VS) (i L : Nat) : (fcV kp cl v i L).k = v.k ∧ (fcV kp cl v i L).lv = v.lv ∧ (fcV kp cl v i L).ln = v.ln ∧ (fcV kp cl v i L).inc = v.inc := by
  unfold fcV sIndent
  refine ⟨?_, ?_, ?_, ?_⟩ <;> (split <;> (try split) <;> (try split) <;> rfl)
theorem fcLead_len (kp cl : Bool) (v : VS) (i L : Nat) : (fcLead kp cl v i L).length ≤ (mIndent v).length + 2 := by
  unfold fcLead
  split
  · split <;> simp <;> omega
  · split
    · split
      · have h : (cpT cl v).length ≤ 1 := by
          unfold cpT
          split
          · simp
          · exact spT_len _
        omega
      · simp
    · split <;> simp
theorem litB_len (t : List UInt8) : (litB t).length ≤ t.length + 2 := by
  unfold litB
  split <;> simp
theorem fcT_len (kp cl : Bool) (v : VS) (i L : Nat) (t : List UInt8) : (fcT kp cl v i L t).length ≤ (mIndent v).length + t.length + 5 := by
  have h1 := fcLead_len kp cl v i L
  have h2 := litB_len t
  simp only [fcT, List.length_append, List.length_singleton]
  omega
theorem trimB_len (t : ByteArray) : (trimB t).size ≤ t.size := by
  unfold trimB Lib.trimRightF
  rw [ByteArray.size_extract]
  omega

/-- What the comments' row holds. -/
def comC (cs : List (Nat × ByteArray)) : List Value := cs.flatMap fun c => [.int .u32 0, .int .u32 (lcP c.1 : Int), .string c.2]
theorem comC_len (cs : List (Nat × ByteArray)) : (comC cs).length = 3 * cs.length := by
  induction cs with
  | nil => rfl
  | cons c r ih => simp only [comC, List.flatMap_cons, List.length_append, List.length_cons, List.length_nil] at ih ⊢; omega
theorem comC_at : ∀ (cs : List (Nat × ByteArray)) (j : Nat) (hj : j < cs.length), (comC cs)[j * 3]? = some (.int .u32 0) ∧ (comC cs)[j * 3 + 1]? = some (.int .u32 (lcP (cs[j]'hj).1 : Int)) ∧ (comC cs)[j * 3 + 2]? = some (.string (cs[j]'hj).2)
  | c :: r, 0, _ => ⟨rfl, rfl, rfl⟩
  | c :: r, j + 1, hj => by
    have h := comC_at r j (by simpa using hj)
    have e : ∀ m, (comC (c :: r))[(j + 1) * 3 + m]? = (comC r)[j * 3 + m]? := fun m => by
      show ([_, _, _] ++ comC r)[(j + 1) * 3 + m]? = _
      rw [show (j + 1) * 3 + m = j * 3 + m + 3 by omega, List.getElem?_append_right (by simp)]
      simp
    refine ⟨?_, ?_, ?_⟩
    · have := e 0; simpa using this.trans h.1
    · exact (e 1).trans h.2.1
    · exact (e 2).trans h.2.2

set_option maxRecDepth 100000 in
theorem com_pos {cb : Nat} {w : World} {o lc : Nat} {t : ByteArray} (h : w.heap[cb]? = some (.cells #[.int .u32 (o : Int), .int .u32 (lc : Int), .string t] 42 (0, 0))) : Calls Tryz.prog 66 #[.pointer (some ⟨cb, 0, none⟩)] w fun e w' => e = .returned (posV o lc) ∧ Upd (fun _ => False) w w' := by
  have c0 : w.cell? ⟨cb, 0, none⟩ = some (.int .u32 (o : Int)) := cell_at h 0
  have c1 : w.cell? ⟨cb, 1, none⟩ = some (.int .u32 (lc : Int)) := cell_at h 1
  have hlt : cb < w.heap.size := heap_lt h
  clear h
  go_enter Tryz.func66, Tryz.ntmps66
  go_wp2
  refine bodyPost_ret (results_cell_row rfl _ _ w.heap.size _ _ (0, 0) _ rfl (heap_alloc_new w _) Tryz.underlying40 rfl (by kernel_rfl)) rfl ?_
  exact ⟨rfl, (Upd.refl _ w).alloc _⟩
end Go.Proofs.YtmdkpihlhdjjaaaGreatFmt

namespace Go.Proofs.YtmdkpihlhdjjaaaGreatFmt
open Go.RowKit

theorem fcS_flags (kp cl : Bool) (v : VS) (i L : Nat) : (fcS kp cl v i L).mn = true ∧ (fcS kp cl v i L).wn = true ∧ (fcS kp cl v i L).fl = false ∧ (fcS kp cl v i L).ln = max v.ln L := ⟨rfl, rfl, rfl, rfl⟩
theorem fcAll_flags (kp : Bool) : ∀ (cs : List (Nat × ByteArray)) (cl : Bool) (v : VS) (i : Nat), (fcAll kp cl v i cs).2.1.mn = (v.mn || decide (0 < cs.length)) ∧ (fcAll kp cl v i cs).2.1.wn = (v.wn || decide (0 < cs.length)) ∧ (fcAll kp cl v i cs).2.1.fl = (v.fl && decide (cs.length = 0)) ∧ mIndent (fcAll kp cl v i cs).2.1 = mIndent v
  | [], cl, v, i => by simp [fcAll]
  | c :: r, cl, v, i => by
    obtain ⟨h1, h2, h3, h4⟩ := fcAll_flags kp r (clOf kp cl (fcT kp cl v i c.1 (trimB c.2).data.toList)) (fcS kp cl v i c.1) (i + 1)
    have hk := fcS_k kp cl v i c.1
    obtain ⟨f1, f2, f3, _⟩ := fcS_flags kp cl v i c.1
    rw [f1] at h1
    rw [f2] at h2
    rw [f3] at h3
    refine ⟨h1.trans (by simp), h2.trans (by simp), h3.trans (by simp), h4.trans ?_⟩
    unfold mIndent
    rw [hk.1, hk.2.1, hk.2.2.1]
/-- The leader where the comment is not the first one, or a line is to be begun. -/
theorem fcLead_brk {cl : Bool} {v : VS} {i L : Nat} (h : fcBrk v i L = true) : fcLead false cl v i L = [10] ++ (if v.ln + 1 < L then [10] else []) ++ mIndent v := by
  unfold fcLead
  rw [if_pos h]
theorem fcLead_no {cl : Bool} {v : VS} {i L : Nat} (h : fcBrk v i L = false) : fcLead false cl v i L = if v.ws = 1 then [9] else if v.ws = 2 then [] else [32] := by
  unfold fcLead
  rw [if_neg (by rw [h]; simp)]
  simp
end Go.Proofs.YtmdkpihlhdjjaaaGreatFmt
