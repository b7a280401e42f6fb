/-
  The start that is shown: a world in which the listed package-level variables read as the rows say.
  The frame of a law's card: the walk says that the call returns true and that nothing old has turned.
  Slices of strings and of numbers that came in, opened.
-/
import Derived.Test.YtmdkpihlhdjjaaaGreatFmtRows
import Derived.ProofKit
import Derived.Deep.DeepWitnessRef
import Derived.Deep.DeepLaidRun
import Derived.Test.YtmdkpihlhdjjaaaGreatFmtTie
import Derived.OpenVars
import Derived.Stop.JoinedTold
import Derived.SevenTiedAt
import Derived.Stop.JoinedAt
import Derived.Test.YtmdkpihlhdjjaaaGreatFmtKMaX
import Derived.SliceStrings
namespace Go.Proofs.YtmdkpihlhdjjaaaGreatFmt
open Go.RowKit

/-- The cells of a datum of numbers, in their order. -/
def flat0 : DataW Unit → List Value
  | .lit (.int k n) => [.int k n]
  | _ => []
def flat1 : DataW Unit → List Value
  | .agg l => l.flatMap flat0
  | d => flat0 d
def flatL : DataW Unit → List Value
  | .agg l => l.flatMap flat1
  | d => flat0 d

noncomputable def laidWorld (os : Os) : World :=
  let N := (World.settled Tryz.prog os).heap.size
  let w0 := World.holding Tryz.prog os ⟨#[.cells (([9, 13, 1, 32, 133, 101, 160, 5760, 5600, 8192, 8202, 1, 8232, 8233, 1, 8239, 8287, 48, 12288, 12288, 1] : List Int).map (Value.int .u16)).toArray 371,
    .cells #[.slice (some ⟨N, 0, none⟩) 7 7, .slice none 0 0, .int .i64 2] 369, .cells #[.string ⟨#[115, 104, 111, 114, 116, 32, 119, 114, 105, 116, 101]⟩] 288], #[], []⟩
  let put (h : Array Obj) (g : Nat) (cs : Array Value) : Array Obj := h.modify g fun
    | .cells _ t frozen => .cells cs t frozen
    | o => o
  let h1 := put (put (put w0.heap 7 (flatL Rows.laid_math_bits_deBruijn32tab).toArray) 8 (flatL Rows.laid_math_bits_deBruijn64tab).toArray) 4 (flatL Rows.laid_internal_strconv_uint64pow10).toArray
  let h2 := put (put h1 3 (flatL Rows.laid_unicode_utf8_acceptRanges).toArray) 1 (flatL Rows.laid_mvdan_cc_sh_v3_syntax_token_index).toArray
  let h3 := put (put h2 2 (flatL Rows.laid_unicode_utf8_first).toArray) 6 #[.iface 286 (.pointer (some ⟨N + 2, 0, none⟩))]
  { w0 with heap := put h3 0 #[.pointer (some ⟨N + 1, 0, none⟩)] }

/-- The rows' one list of laid variables. -/
def laidL : List (String × DataW Unit) := Rows.fnFlushCommentsSecondCallSilentRow.laid

set_option maxRecDepth 1000000 in
theorem laid_met (os : Os) (args : Array Value) : laidMet Tryz.prog laidL ((laidWorld os).forCall (fun _ _ => 0) ⟨#[], args, []⟩).memory :=
  laidMet_of_run3 10 (by kernel_rfl) (by kernel_rfl) (by kernel_rfl)
end Go.Proofs.YtmdkpihlhdjjaaaGreatFmt

namespace Go.Proofs.YtmdkpihlhdjjaaaGreatFmt
open Go.ChangeShapes Go.WideShapes Go.ChangeAt Go.RowKit Go.Kit
open Go.Extern.Stop Go.Stop Go.Extern

theorem ownK : ownKnob Tryz.prog.godebug = none := by kernel_rfl
theorem laidOutK : laidOutB Tryz.pinned.checked.prog = true := by kernel_rfl
theorem stopsK : Tryz.pinned.checked.prog.stops = ["fmt.errorf, its operands' methods called", "fmt.Sprintf, its operands' methods called"] := by kernel_rfl
theorem stopKnobsK : Tryz.pinned.checked.prog.stopKnobs = [] := by kernel_rfl
theorem quietK (os : Os) : Stop.quiet Tryz.pinned.checked.prog os := by
  intro k hk
  rw [stopKnobsK] at hk
  cases hk

theorem mapsRowedK : mapsRowed Tryz.pinned.checked.prog = true := by kernel_rfl
theorem envWordedK : Tryz.pinned.checked.prog.envWorded = true := by kernel_rfl
theorem looksK : true = Tryz.pinned.checked.prog.looks [] := by kernel_rfl
theorem mayEnterK : Tryz.pinned.checked.prog.mayEnter = true := by kernel_rfl
theorem stopsHeardK : Tryz.pinned.checked.prog.stopsHeard = true := by kernel_rfl

section
variable {H : Type} {enc : TypeId × Value → H} {P : Program}
theorem trodAll_below (hl : laidOutB P = true) {W W' : World} (hb : Below W.heap.size W W') :
    ∀ {ts : List TypeId} {vs : List Value} {ds : List (DataW H)} {ps : List MemPlace}, (ts.all fun t => P.readableRec t && decide (t < P.types.size)) = true → DataW.TrodAll enc P W 0 (fun _ => true) true ts vs ds ps →
      DataW.TrodAll enc P W' 0 (fun b => decide (b < W.heap.size)) true ts vs ds ps
  | [], [], [], _, _, h => h
  | t :: ts, v :: vs, d :: ds, ps, hv, h => by
    have hlt := h.lt
    obtain ⟨p, q, h1, h2, e⟩ := h
    simp only [List.all_cons, Bool.and_eq_true, decide_eq_true_eq] at hv
    exact ⟨p, q, Below.trod hl hv.1.1 hv.1.2 h1 hb fun x hx => hlt x (by rw [e]; simp [hx]), trodAll_below hl hb (by simpa using hv.2) h2, e⟩
  | [], _ :: _, _, _, _, h => h.elim
  | [], [], _ :: _, _, _, h => h.elim
  | _ :: _, [], _, _, _, h => h.elim
  | _ :: _, _ :: _, [], _, _, h => h.elim

theorem truth_post {f : Func} {s : ChangeSpec} {apart handsOn : Bool} {W W' : World} {args : Array Value} {ds gs : List (DataW H)} {before : List MemPlace} (hl : laidOutB P = true)
    (hps : (f.params.toList.all fun t => P.readableRec t && decide (t < P.types.size)) = true) (hvs : varsRowed P s.vars = true) {tb : TypeId} (hr : f.resultTypes = #[tb]) (htb : P.underlying tb = some .bool)
    (hW : DataW.Whole enc P f.params.toList s.vars apart W args.toList ds gs before) (hfn : s.fn H (ds ++ gs) = { results := [.lit (.bool true)], args := ds, vars := gs }) (hB : Below W.heap.size W W') (fresh : Bool) :
    s.post enc P f apart fresh handsOn false W args (.bool true) W' := by
  have hW' := hW
  obtain ⟨p, q, hA, hV, _, _, _⟩ := hW
  refine ⟨ds, gs, before, [], p, q, hW', ?_, ?_, ?_, hB.frame _, fun h => by cases h⟩
  · rw [hfn, hr]
    exact trodAll_mk1 (shut_bool htb true)
  · rw [hfn]; exact trodAll_below hl hB hps hA
  · rw [hfn]; exact Below.trodVars hl hB hvs hV
end
end Go.Proofs.YtmdkpihlhdjjaaaGreatFmt

namespace Go.Proofs.YtmdkpihlhdjjaaaGreatFmt
open Go.ChangeShapes Go.WideShapes Go.ChangeAt Go.RowKit Go.Kit

theorem strs_of_trod {H : Type} {enc : TypeId × Value → H} {w : World} {base : Nat} {held : Bool} {fuel : Nat} {vo : Option Addr} {vn vc : Nat} {x : DataW H × List MemPlace}
    (h : DataW.trod enc Tryz.prog w base (fun _ => true) held fuel 44 (Value.slice vo vn vc).cells.toList = some x) : ∃ L, StrsRd w (.slice vo vn vc) L ∧ L.length ≤ maxLen := by
  rcases open_strings Tryz.underlying44 Tryz.underlying9 (by kernel_rfl) h with ⟨hcs, _⟩ | ⟨a, len, cap, ss, hcs, _, hle, hmx, hsl, _, hcell, _⟩
  · simp [Value.cells] at hcs
    obtain ⟨rfl, rfl, rfl⟩ := hcs
    exact ⟨[], .inl ⟨rfl, rfl⟩, Nat.zero_le _⟩
  · simp [Value.cells] at hcs
    obtain ⟨rfl, rfl, rfl⟩ := hcs
    simp only [if_true] at hsl
    have hlen : (ss.take vn).length = vn := by rw [List.length_take]; omega
    refine ⟨ss.take vn, .inr ⟨a, vc, by rw [hlen], by omega, fun j b hj => ?_⟩, by omega⟩
    have hjn : j < vn := by rw [← hlen]; exact (List.getElem?_eq_some_iff.1 hj).1
    rw [List.getElem?_take, if_pos hjn] at hj
    rw [hcell j (by omega), List.getD_eq_getElem?_getD, hj]
    rfl

theorem uints_of_trod {H : Type} {enc : TypeId × Value → H} {w : World} {base : Nat} {held : Bool} {fuel : Nat} {vo : Option Addr} {vn vc : Nat} {x : DataW H × List MemPlace}
    (h : DataW.trod enc Tryz.prog w base (fun _ => true) held fuel 43 (Value.slice vo vn vc).cells.toList = some x) : ∃ L, UintsRd w (.slice vo vn vc) L ∧ L.length ≤ maxLen := by
  rcases open_ints Tryz.underlying43 Tryz.underlying22 (by kernel_rfl) h with ⟨hcs, _⟩ | ⟨a, len, cap, zs, hcs, _, hle, hmx, hsl, _, hcell, hwf⟩
  · simp [Value.cells] at hcs
    obtain ⟨rfl, rfl, rfl⟩ := hcs
    exact ⟨[], .inl ⟨rfl, rfl⟩, Nat.zero_le _⟩
  · simp [Value.cells] at hcs
    obtain ⟨rfl, rfl, rfl⟩ := hcs
    simp only [if_true] at hsl
    have hlen : ((zs.take vn).map Int.toNat).length = vn := by rw [List.length_map, List.length_take]; omega
    refine ⟨(zs.take vn).map Int.toNat, .inr ⟨a, vc, by rw [hlen], by omega, fun j b hj => ?_⟩, by omega⟩
    have hjn : j < vn := by rw [← hlen]; exact (List.getElem?_eq_some_iff.1 hj).1
    rw [List.getElem?_map, List.getElem?_take, if_pos hjn] at hj
    obtain ⟨z, hz, rfl⟩ := Option.map_eq_some_iff.1 hj
    have hzm : z ∈ zs := List.mem_of_getElem? hz
    have h0 : 0 ≤ z := by
      have h1 := hwf z hzm
      have h2 : IntKind.u64.min = 0 := rfl
      simp [Lit.wf] at h1
      omega
    rw [hcell j (by omega), List.getD_eq_getElem?_getD, hz]
    simp only [Option.getD_some]
    rw [Int.toNat_of_nonneg h0]

theorem bytes_of_trod {H : Type} {enc : TypeId × Value → H} {w : World} {base : Nat} {held : Bool} {fuel : Nat} {vo : Option Addr} {vn vc : Nat} {x : DataW H × List MemPlace}
    (h : DataW.trod enc Tryz.prog w base (fun _ => true) held fuel 31 (Value.slice vo vn vc).cells.toList = some x) : ∃ L, KsRd w (.slice vo vn vc) L ∧ L.length ≤ maxLen ∧ ∀ k ∈ L, k < 256 := by
  rcases open_ints Tryz.underlying31 Tryz.underlying5 (by kernel_rfl) h with ⟨hcs, _⟩ | ⟨a, len, cap, zs, hcs, _, hle, hmx, hsl, _, hcell, hwf⟩
  · simp [Value.cells] at hcs
    obtain ⟨rfl, rfl, rfl⟩ := hcs
    exact ⟨[], .inl ⟨rfl, rfl⟩, Nat.zero_le _, by simp⟩
  · simp [Value.cells] at hcs
    obtain ⟨rfl, rfl, rfl⟩ := hcs
    simp only [if_true] at hsl
    have hlen : ((zs.take vn).map Int.toNat).length = vn := by rw [List.length_map, List.length_take]; omega
    refine ⟨(zs.take vn).map Int.toNat, .inr ⟨a, vc, by rw [hlen], by omega, fun j b hj => ?_⟩, by omega, fun k hk => ?_⟩
    rotate_left
    · obtain ⟨z, hz, rfl⟩ := List.mem_map.1 hk
      have h1 := hwf z (List.mem_of_mem_take hz)
      have h2 : IntKind.u8.max = 255 := rfl
      simp [Lit.wf] at h1
      omega
    have hjn : j < vn := by rw [← hlen]; exact (List.getElem?_eq_some_iff.1 hj).1
    rw [List.getElem?_map, List.getElem?_take, if_pos hjn] at hj
    obtain ⟨z, hz, rfl⟩ := Option.map_eq_some_iff.1 hj
    have hzm : z ∈ zs := List.mem_of_getElem? hz
    have h0 : 0 ≤ z := by
      have h1 := hwf z hzm
      have h2 : IntKind.u8.min = 0 := rfl
      simp [Lit.wf] at h1
      omega
    rw [hcell j (by omega), List.getD_eq_getElem?_getD, hz]
    simp only [Option.getD_some]
    rw [Int.toNat_of_nonneg h0]
end Go.Proofs.YtmdkpihlhdjjaaaGreatFmt
