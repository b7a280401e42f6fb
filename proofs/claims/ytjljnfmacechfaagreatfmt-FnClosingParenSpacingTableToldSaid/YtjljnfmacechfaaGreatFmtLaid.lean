/-
  The start that is shown: a world in which the listed package-level variables read as the rows say.
-/
import Derived.Test.YtjljnfmacechfaaGreatFmtRows
import Derived.ProofKit
import Derived.Deep.DeepWitnessRef
import Derived.Deep.DeepLaidRun
namespace Go.Proofs.YtjljnfmacechfaaGreatFmt
open Go.RowKit

/-- The cells of a datum of numbers, in their order. -/
def flat0 : DataW Unit → List Value
  | .lit (.int k n) => [.int k n]
  | _ => []
def flat1 : DataW Unit → List Value
  | .agg l => l.flatMap flat0
  | d => flat0 d
def flatL : DataW Unit → List Value
  | .agg l => l.flatMap flat1
  | d => flat0 d

noncomputable def laidWorld (os : Os) : World :=
  let N := (World.settled Tryz.prog os).heap.size
  let w0 := World.holding Tryz.prog os ⟨#[.cells (([9, 13, 1, 32, 133, 101, 160, 5760, 5600, 8192, 8202, 1, 8232, 8233, 1, 8239, 8287, 48, 12288, 12288, 1] : List Int).map (Value.int .u16)).toArray 190,
    .cells #[.slice (some ⟨N, 0, none⟩) 7 7, .slice none 0 0, .int .i64 2] 187, .cells #[.string ⟨#[115, 104, 111, 114, 116, 32, 119, 114, 105, 116, 101]⟩] 419], #[], []⟩
  let put (h : Array Obj) (g : Nat) (cs : Array Value) : Array Obj := h.modify g fun
    | .cells _ t frozen => .cells cs t frozen
    | o => o
  let h1 := put (put (put w0.heap 6 (flatL Rows.laid_math_bits_deBruijn32tab).toArray) 7 (flatL Rows.laid_math_bits_deBruijn64tab).toArray) 5 (flatL Rows.laid_internal_strconv_uint64pow10).toArray
  let h2 := put (put h1 2 (flatL Rows.laid_unicode_utf8_acceptRanges).toArray) 3 (flatL Rows.laid_mvdan_cc_sh_v3_syntax_token_index).toArray
  let h3 := put (put h2 1 (flatL Rows.laid_unicode_utf8_first).toArray) 10 #[.iface 375 (.pointer (some ⟨N + 2, 0, none⟩))]
  { w0 with heap := put h3 0 #[.pointer (some ⟨N + 1, 0, none⟩)] }

/-- The rows' one list of laid variables. -/
def laidL : List (String × DataW Unit) := Rows.fnClosingParenSpacingTableRow.laid

set_option maxRecDepth 1000000 in
theorem laid_met (os : Os) (args : Array Value) : laidMet Tryz.prog laidL ((laidWorld os).forCall (fun _ _ => 0) ⟨#[], args, []⟩).memory :=
  laidMet_of_run3 10 (by kernel_rfl) (by kernel_rfl) (by kernel_rfl)
end Go.Proofs.YtjljnfmacechfaaGreatFmt
