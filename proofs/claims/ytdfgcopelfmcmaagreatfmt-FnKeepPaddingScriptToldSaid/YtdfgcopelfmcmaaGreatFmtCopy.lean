/-
  The builtin copy into a row of bytes, from a readable slice and from a string. Plain laws over the model's worlds.
-/
import Derived.Test.YtdfgcopelfmcmaaGreatFmtSink
namespace Go.Proofs.YtdfgcopelfmcmaaGreatFmt
open Go.RowKit

/-- A row of bytes in which d has been laid from place off on. -/
def laid (cur : Array Value) (off : Nat) (d : List UInt8) : Array Value := (cur.toList.take off ++ bv d ++ cur.toList.drop (off + d.length)).toArray
theorem laid_nil (cur : Array Value) (off : Nat) : laid cur off [] = cur := by simp [laid]
theorem laid_size {cur : Array Value} {off : Nat} {d : List UInt8} (h : off + d.length ≤ cur.size) : (laid cur off d).size = cur.size := by
  simp [laid]; omega
theorem laid_take {cur : Array Value} {l d : List UInt8} (ht : cur.toList.take l.length = bv l) :
    (laid cur l.length d).toList.take (l ++ d).length = bv (l ++ d) := by
  simp only [laid, ht, List.length_append]
  rw [← bv_append]
  have : l.length + d.length = (bv (l ++ d)).length := by simp
  rw [this, List.take_left]

section
variable {P : Program} (w : World) (dT sT ty elem : TypeId) (hu : P.underlying dT = some (.slice elem)) (hs : (P.info? elem).map (·.size) = some 1)
include hu hs
theorem run_copy_rd {F : Nat → Prop} {v : Value} {d : List UInt8} (hv : SliceRd w F v d) {g off dCap : Nat} {dp : Option Addr} {cur : Array Value} {t : TypeId} (hg : w.heap[g]? = some (.cells cur t (0, 0)))
    (hd : d ≠ [] → dp = some ⟨g, off, none⟩) (hfit : off + d.length ≤ cur.size) :
    (Builtin.copy_ #[dT, sT] ty #[.slice dp d.length dCap, v]).run P w = .ok (goInt d.length) (w.setRow g (laid cur off d)) := by
  by_cases h0 : d = []
  · subst h0
    rw [laid_nil, setRow_self w g cur t (0, 0) hg]
    rcases hv with ⟨rfl, _⟩ | ⟨a, c, rfl, _⟩
    · exact run_copy_none w dT sT ty elem dp none 0 dCap 0 0 hu hs rfl
    · exact run_copy_none w dT sT ty elem dp (some a) 0 dCap 0 c hu hs rfl
  · obtain rfl := hd h0
    rcases hv with ⟨_, h1⟩ | ⟨a, c, rfl, _, hr⟩
    · exact absurd h1 h0
    · have h := run_copy_row (P := P) w dT sT ty elem g off d.length dCap a d.length c cur t (bv d) hu hs hg (by simp) hr (by simpa using hfit) (bv_oneCell d)
      simpa [laid] using h
theorem run_copy_str {s : ByteArray} {g off dLen dCap : Nat} {dp : Option Addr} {cur : Array Value} {t : TypeId} (hg : w.heap[g]? = some (.cells cur t (0, 0)))
    (hd : 0 < s.size → 0 < dLen → dp = some ⟨g, off, none⟩) (hfit : off + min s.size dLen ≤ cur.size) :
    (Builtin.copy_ #[dT, sT] ty #[.slice dp dLen dCap, .string s]).run P w = .ok (goInt (min s.size dLen : Nat)) (w.setRow g (laid cur off (s.data.toList.take dLen))) := by
  have hsz : s.size = s.data.toList.length := rfl
  have hlen : (s.data.toList.take dLen).length = min s.size dLen := by rw [List.length_take, hsz]; omega
  have hmin : Nat.min s.size dLen = min s.size dLen := rfl
  have htk : List.take (min s.size dLen) (List.map (fun b : UInt8 => Value.int .u8 (b.toNat : Int)) s.data.toList) = bv (s.data.toList.take dLen) := by
    rw [bv_take]
    apply List.take_eq_take_iff.2
    rw [List.length_map, hsz]
    omega
  cases hq : P.info? elem with
  | none => simp [hq] at hs
  | some i =>
    by_cases h0 : min s.size dLen = 0
    · have hnil : s.data.toList.take dLen = [] := List.eq_nil_of_length_eq_zero (by omega)
      rw [hnil, laid_nil, setRow_self w g cur t (0, 0) hg, h0]
      cases dp <;> simp [Builtin.copy_, run_underlying hu, Builtin.lenOf, Builtin.firstCells, sizeOf, typeInfo, hq, hmin, h0, storeCells]
    · obtain rfl := hd (by omega) (by omega)
      have hst := run_storeCells_at P g off t (bv (s.data.toList.take dLen)) 0 cur w hg (by rw [bv_length, hlen]; omega) (bv_oneCell _)
      simp only [Nat.add_zero, bv_length] at hst
      simp [Builtin.copy_, run_underlying hu, Builtin.lenOf, Builtin.firstCells, sizeOf, typeInfo, hq, hmin]
      rw [htk, hst]
      simp [laid, Result.andThen]
end
end Go.Proofs.YtdfgcopelfmcmaaGreatFmt
