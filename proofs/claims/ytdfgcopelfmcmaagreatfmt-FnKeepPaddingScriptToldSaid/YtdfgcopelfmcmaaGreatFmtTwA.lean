/-
  tabwriter.Writer over a sink, for text without tabs and escapes: its state; write0; newline; append.
-/
import Derived.Test.YtdfgcopelfmcmaaGreatFmtMa
import Derived.Test.YtdfgcopelfmcmaaGreatFmtMb
import Derived.Deep.LoopGhost
namespace Go.Proofs.YtdfgcopelfmcmaaGreatFmt
open Go.RowKit

/-- The cells of the Writer's struct. -/
def twCells (S : Sink) (twd fg : Nat) (vb : Value) (pos cs : Nat) (cw : Int) (ht : Bool) (vl vw : Value) : Array Value :=
  #[.iface S.ty (.pointer (some S.ptr)), .int .i64 0, .int .i64 (twd : Int), .int .i64 1, .int .u8 32, .int .u8 32, .int .u8 32, .int .u8 32, .int .u8 32, .int .u8 32, .int .u8 32, .int .u8 32,
    .int .u64 (fg : Int), vb, .int .i64 (pos : Int), .int .i64 (cs : Int), .int .i64 cw, .bool ht, .int .u8 0, vl, vw]

/-- A cell of a line. -/
structure TCell where
  n : Nat
  w : Int
  h : Bool
def TCell.vs (c : TCell) : List Value := [.int .i64 (c.n : Int), .int .i64 c.w, .bool c.h]

/-- The row of lines: the first one is c0 (none or one cell), the others are slices of whatever; nl of them are in use, and the second one, if it is, is empty. -/
def TwLines (w : World) (G : Nat → Prop) (vl : Value) (nl : Nat) (c0 : List TCell) : Prop :=
  ∃ (L cap : Nat) (cur : Array Value) (v0 : Value), vl = .slice (some ⟨L, 0, none⟩) nl cap ∧ w.heap[L]? = some (.cells cur 316 (0, 0)) ∧ cur.size = cap ∧ nl ≤ cap ∧ 1 ≤ cap ∧ cap ≤ maxLen ∧ G L ∧ cur[0]? = some v0 ∧
    w.ownsRow 0 76 3 v0 c0.length (c0.flatMap TCell.vs) ∧ (∀ k, v0.ownBlock = some k → G k) ∧ (∀ j v, 1 ≤ j → cur[j]? = some v → ∃ ao n c, v = .slice ao n c ∧ n ≤ c ∧ c ≤ maxLen) ∧ (2 ≤ nl → ∃ ao c, cur[1]? = some (.slice ao 0 c))

/-- The state of the Writer: G holds its rows; inner has come to the sink, t is in the buffer. -/
def TwAt (S : Sink) (tb : Nat) (w : World) (G Fs : Nat → Prop) (inner t : List UInt8) (twd fg pos cs : Nat) (cw : Int) (ht : Bool) (nl : Nat) (c0 : List TCell) : Prop :=
  ∃ vb vl aw cap, w.heap[tb]? = some (.cells (twCells S twd fg vb pos cs cw ht vl (.slice aw 0 cap)) 80 (0, 0)) ∧ Row w vb t ∧ (∀ k, vb.ownBlock = some k → G k) ∧ TwLines w G vl nl c0 ∧
    S.I w Fs inner ∧ ¬ Fs tb ∧ ¬ G tb ∧ (∀ k, G k → ¬ Fs k) ∧ (∀ k, G k → k < w.heap.size) ∧ (fg = 10 ∨ fg = 26)

theorem tw_newline (w : World) : Calls Tryz.prog 201 #[] w fun e w' => e = .returned (.slice (some ⟨w.heap.size, 0, none⟩) 1 1) ∧ w' = w.alloc (.cells #[.int .u8 10] 5) := by
  go_enter Tryz.func201, Tryz.ntmps201
  go_wp2
  go_ret
  exact ⟨rfl, rfl⟩

set_option maxRecDepth 100000 in
set_option maxHeartbeats 1000000 in
theorem tw_write0 {S : Sink} (hs : S.Law Tryz.prog 542) {tb : Nat} {w : World} {Fs : Nat → Prop} {inner d : List UInt8} {v : Value} (h0 : w.cell? ⟨tb, 0, none⟩ = some (.iface S.ty (.pointer (some S.ptr)))) (hI : S.I w Fs inner) (hv : SliceRd w Fs v d)
    (hk : ∀ c ∈ d, S.okb c = true) (hl : inner.length + d.length ≤ LIM) :
    Calls Tryz.prog 198 #[.pointer (some ⟨tb, 0, none⟩), v] w fun e w' => e = .returned (.tuple #[]) ∧ ∃ F', S.I w' F' (inner ++ d) ∧ (∀ k, F' k → Fs k ∨ w.heap.size ≤ k) ∧ Upd Fs w w' := by
  obtain ⟨ao, c, rfl⟩ : ∃ ao c, v = .slice ao d.length c := by
    rcases hv with ⟨rfl, rfl⟩ | ⟨a, c, rfl, _⟩
    · exact ⟨none, 0, rfl⟩
    · exact ⟨some a, c, rfl⟩
  have hm := hs.meth
  have hah := hs.ahead
  have he := hs.enters
  obtain ⟨Q1, HQ1, HW⟩ := callsVar (hs.write hI hv hk hl)
  clear hI hv hk
  go_enter Tryz.func198, Tryz.ntmps198
  go_wp2_with (refine HW.out.mono ?_)
  rintro e w1 hq
  obtain ⟨rfl, hP⟩ := HQ1.out e w1 hq
  clear hq
  have HP := Lib.hid hP; clear hP
  go_wp2
  go_end0
  exact ⟨rfl, HP.out⟩
end Go.Proofs.YtdfgcopelfmcmaaGreatFmt
