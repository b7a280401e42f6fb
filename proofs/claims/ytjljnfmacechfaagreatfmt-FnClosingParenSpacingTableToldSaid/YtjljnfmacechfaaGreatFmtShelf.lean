/-
  The contracts of library functions that these proofs use, laid at this program by the kit's own tool in plain words.
-/
import Derived.Shelf.Bytes.GrowSlice
import Derived.Shelf.Bytes.TryGrow
import Derived.Shelf.Strings.Builder1
import Derived.Shelf.Strings.FuncGrows
import Derived.Shelf.Strings.Trim
import Derived.Shelf.Unicode.IsSpaceAny
import Derived.Shelf.Utf8.RuneCount
import Derived.Test.YtjljnfmacechfaaGreatFmtProg
namespace Go.Proofs
open Go.Shelf
def Tryz.lays169_ren : Go.Shelf.Ren := ⟨fun | 169 => 162 | n => n, fun | 70 => 351 | 9 => 9 | 0 => 0 | 72 => 353 | 37 => 22 | 127 => 355 | 3 => 3 | 5 => 5 | n => n, fun | n => n⟩
theorem Tryz.lays169 : Go.Proofs.Lays.n169 Tryz.prog Tryz.lays169_ren := {
  mixed := by kernel_rfl
  f169 := Tryz.func162.trans (congrArg some (by kernel_rfl))
  t0 := Tryz.underlying0
  a0 := Tryz.isAgg0
  z0 := Tryz.sizeOf0
  v0 := Tryz.zeroValue0
  t3 := Tryz.underlying3
  a3 := Tryz.isAgg3
  z3 := Tryz.sizeOf3
  v3 := Tryz.zeroValue3
  t9 := Tryz.underlying9
  a9 := Tryz.isAgg9
  z9 := Tryz.sizeOf9
  v9 := Tryz.zeroValue9
  t37 := Tryz.underlying22
  a37 := Tryz.isAgg22
  z37 := Tryz.sizeOf22
  v37 := Tryz.zeroValue22
  t70 := Tryz.underlying351
  a70 := Tryz.isAgg351
  z70 := Tryz.sizeOf351
  v70 := Tryz.zeroValue351
  t72 := Tryz.underlying353
  a72 := Tryz.isAgg353
  z72 := Tryz.sizeOf353
  v72 := Tryz.zeroValue353
  t127 := Tryz.underlying355
  a127 := Tryz.isAgg355
  z127 := Tryz.sizeOf355
  v127 := Tryz.zeroValue355 }
theorem Tryz.Builder_Extra_169 : Builder.Extra Tryz.prog Tryz.lays169_ren := {
  sizeBuilder := by kernel_rfl
  liesBuilder := by kernel_rfl
  t5 := Tryz.underlying5
  a5 := Tryz.isAgg5
  z5 := Tryz.sizeOf5
  v5 := Tryz.zeroValue5
  infoByte := by kernel_rfl
  cellsByte := by kernel_rfl
  sizeByte := by kernel_rfl
  neB5 := by decide }
open Go.RowKit in
theorem Tryz.Builder_String_any (B b : Nat) (l : List UInt8) (w : World) (h : Lib.IsBuilder 353 5 B b (Lib.byteCells l) w) (hBw : B ≤ w.heap.size) :
    Calls Tryz.prog 162 #[.pointer (some ⟨b, 0, none⟩)] w fun e w' => e = .returned (.string ⟨l.toArray⟩) ∧ Below B w w' := Any.Builder_String_any Tryz.lays169 Tryz.Builder_Extra_169 B b l w h hBw
def Tryz.lays162_ren : Go.Shelf.Ren := ⟨fun | 162 => 51 | 232 => 68 | 227 => 69 | 234 => 70 | 236 => 71 | 228 => 90 | 271 => 64 | 151 => 91 | 120 => 89 | 197 => 49 | 152 => 101 | 260 => 65 | 137 => 110 | 119 => 111 | 224 => 112 | 225 => 113 | 217 => 141 | 266 => 153 | n => n, fun | 9 => 9 | 4 => 4 | 3 => 3 | 5 => 5 | 117 => 198 | 116 => 197 | 0 => 0 | 124 => 201 | 21 => 21 | 105 => 149 | 46 => 23 | 119 => 220 | 139 => 223 | 138 => 222 | n => n, fun | 3 => 1 | 4 => 2 | n => n⟩
theorem Tryz.lays162 : Go.Proofs.Lays.n162 Tryz.prog Tryz.lays162_ren := {
  mixed := by kernel_rfl
  f119 := Tryz.func111.trans (congrArg some (by kernel_rfl))
  f120 := Tryz.func89.trans (congrArg some (by kernel_rfl))
  f137 := Tryz.func110.trans (congrArg some (by kernel_rfl))
  f151 := Tryz.func91.trans (congrArg some (by kernel_rfl))
  f152 := Tryz.func101.trans (congrArg some (by kernel_rfl))
  f162 := Tryz.func51.trans (congrArg some (by kernel_rfl))
  f197 := Tryz.func49.trans (congrArg some (by kernel_rfl))
  f217 := Tryz.func141.trans (congrArg some (by kernel_rfl))
  f224 := Tryz.func112.trans (congrArg some (by kernel_rfl))
  f225 := Tryz.func113.trans (congrArg some (by kernel_rfl))
  f227 := Tryz.func69.trans (congrArg some (by kernel_rfl))
  f228 := Tryz.func90.trans (congrArg some (by kernel_rfl))
  f232 := Tryz.func68.trans (congrArg some (by kernel_rfl))
  f234 := Tryz.func70.trans (congrArg some (by kernel_rfl))
  f236 := Tryz.func71.trans (congrArg some (by kernel_rfl))
  f260 := Tryz.func65.trans (congrArg some (by kernel_rfl))
  f266 := Tryz.func153.trans (congrArg some (by kernel_rfl))
  f271 := Tryz.func64.trans (congrArg some (by kernel_rfl))
  t0 := Tryz.underlying0
  a0 := Tryz.isAgg0
  z0 := Tryz.sizeOf0
  v0 := Tryz.zeroValue0
  t3 := Tryz.underlying3
  a3 := Tryz.isAgg3
  z3 := Tryz.sizeOf3
  v3 := Tryz.zeroValue3
  t4 := Tryz.underlying4
  a4 := Tryz.isAgg4
  z4 := Tryz.sizeOf4
  v4 := Tryz.zeroValue4
  t5 := Tryz.underlying5
  a5 := Tryz.isAgg5
  z5 := Tryz.sizeOf5
  v5 := Tryz.zeroValue5
  t9 := Tryz.underlying9
  a9 := Tryz.isAgg9
  z9 := Tryz.sizeOf9
  v9 := Tryz.zeroValue9
  t21 := Tryz.underlying21
  a21 := Tryz.isAgg21
  z21 := Tryz.sizeOf21
  v21 := Tryz.zeroValue21
  t46 := Tryz.underlying23
  a46 := Tryz.isAgg23
  z46 := Tryz.sizeOf23
  v46 := Tryz.zeroValue23
  t105 := Tryz.underlying149
  a105 := Tryz.isAgg149
  z105 := Tryz.sizeOf149
  v105 := Tryz.zeroValue149
  t116 := Tryz.underlying197
  a116 := Tryz.isAgg197
  z116 := Tryz.sizeOf197
  t117 := Tryz.underlying198
  a117 := Tryz.isAgg198
  z117 := Tryz.sizeOf198
  v117 := Tryz.zeroValue198
  t119 := Tryz.underlying220
  a119 := Tryz.isAgg220
  z119 := Tryz.sizeOf220
  t124 := Tryz.underlying201
  a124 := Tryz.isAgg201
  z124 := Tryz.sizeOf201
  v124 := Tryz.zeroValue201
  t138 := Tryz.underlying222
  a138 := Tryz.isAgg222
  z138 := Tryz.sizeOf222
  v138 := Tryz.zeroValue222
  t139 := Tryz.underlying223
  a139 := Tryz.isAgg223
  z139 := Tryz.sizeOf223
  v139 := Tryz.zeroValue223
  g3 := by kernel_rfl
  g4 := by kernel_rfl }
open Go.RowKit in
theorem Tryz.strings_TrimRight_one (s : ByteArray) (c : UInt8) (hc : c.toNat < 128) (w : World) (hs : s.size ≤ 9223372036854775807) :
    Calls Tryz.prog 51 #[.string s, .string ⟨#[c]⟩] w fun e w' => e = .returned (.string ⟨(Lib.trimRightB s.data.toList c).toArray⟩) ∧ w' = w := Any.strings_TrimRight_one Tryz.lays162 s c hc w hs
def Tryz.lays195_ren : Go.Shelf.Ren := ⟨fun | 195 => 235 | n => n, fun | 9 => 9 | 3 => 3 | 0 => 0 | 4 => 4 | n => n, fun | n => n⟩
theorem Tryz.lays195 : Go.Proofs.Lays.n195 Tryz.prog Tryz.lays195_ren := {
  mixed := by kernel_rfl
  f195 := Tryz.func235.trans (congrArg some (by kernel_rfl))
  t0 := Tryz.underlying0
  a0 := Tryz.isAgg0
  z0 := Tryz.sizeOf0
  v0 := Tryz.zeroValue0
  t3 := Tryz.underlying3
  a3 := Tryz.isAgg3
  z3 := Tryz.sizeOf3
  v3 := Tryz.zeroValue3
  t4 := Tryz.underlying4
  a4 := Tryz.isAgg4
  z4 := Tryz.sizeOf4
  v4 := Tryz.zeroValue4
  t9 := Tryz.underlying9
  a9 := Tryz.isAgg9
  z9 := Tryz.sizeOf9
  v9 := Tryz.zeroValue9 }
open Go.RowKit in
theorem Tryz.utf8_RuneCountInString (s : ByteArray) (w : World) (hs : s.size < 9223372036854775807) :
    Calls Tryz.prog 235 #[.string s] w fun e w' => e = .returned (.int .i64 (Lib.runeCount s)) ∧ ∃ pos, w' = w.iter s pos := Any.utf8_RuneCountInString Tryz.lays195 s w hs
def Tryz.laysM251_ren : Go.Shelf.Ren := ⟨fun | 251 => 184 | n => n, fun | 130 => 39 | 3 => 3 | 4 => 4 | 0 => 0 | 93 => 84 | 37 => 22 | 91 => 82 | 5 => 5 | n => n, fun | n => n⟩
theorem Tryz.laysM251 : Go.Proofs.LaysM.n251 Tryz.prog Tryz.laysM251_ren := {
  mixed := by kernel_rfl
  f251 := Tryz.func184.trans (congrArg some (by kernel_rfl))
  t0 := Tryz.underlying0
  a0 := Tryz.isAgg0
  z0 := Tryz.sizeOf0
  v0 := Tryz.zeroValue0
  t3 := Tryz.underlying3
  a3 := Tryz.isAgg3
  z3 := Tryz.sizeOf3
  v3 := Tryz.zeroValue3
  t4 := Tryz.underlying4
  a4 := Tryz.isAgg4
  z4 := Tryz.sizeOf4
  v4 := Tryz.zeroValue4
  t37 := Tryz.underlying22
  a37 := Tryz.isAgg22
  z37 := Tryz.sizeOf22
  v37 := Tryz.zeroValue22
  t93 := Tryz.underlying84
  a93 := Tryz.isAgg84
  z93 := Tryz.sizeOf84
  v93 := Tryz.zeroValue84
  t130 := Tryz.underlying39
  a130 := Tryz.isAgg39
  z130 := Tryz.sizeOf39
  v130 := Tryz.zeroValue39
  t5 := Tryz.underlying5
  a5 := Tryz.isAgg5
  z5 := Tryz.sizeOf5
  v5 := Tryz.zeroValue5
  t91 := Tryz.underlying82
  a91 := Tryz.isAgg82
  z91 := Tryz.sizeOf82
  v91 := Tryz.zeroValue82
  i0 := by kernel_rfl
  i3 := by kernel_rfl
  i4 := by kernel_rfl
  i5 := by kernel_rfl
  i37 := by kernel_rfl
  i91 := by kernel_rfl
  i93 := by kernel_rfl
  i130 := by kernel_rfl }
open Go.RowKit in
theorem Tryz.Buffer_tryGrow_room (b : Nat) (ao : Option Addr) (l cap n : Nat) (w : World) (c0 : w.cell? ⟨b, 0, none⟩ = some (.slice ao l cap)) (f0 : w.frozen? ⟨b, 0, none⟩ = false) (hlc : l ≤ cap) (hcap : cap ≤ maxLen) (hn : n ≤ cap - l) :
    Calls Tryz.prog 184 #[.pointer (some ⟨b, 0, none⟩), .int .i64 n] w fun e w' => e = .returned (.tuple #[.int .i64 l, .bool true]) ∧ w' = w.setCell ⟨b, 0, none⟩ (.slice ao (l + n) cap) := Any.Buffer_tryGrow_room Tryz.laysM251 b ao l cap n w c0 f0 hlc hcap hn
open Go.RowKit in
theorem Tryz.Buffer_tryGrow_none (b : Nat) (ao : Option Addr) (l cap n : Nat) (w : World) (c0 : w.cell? ⟨b, 0, none⟩ = some (.slice ao l cap)) (hlc : l ≤ cap) (hcap : cap ≤ maxLen) (hn : cap - l < n) :
    Calls Tryz.prog 184 #[.pointer (some ⟨b, 0, none⟩), .int .i64 n] w fun e w' => e = .returned (.tuple #[.int .i64 0, .bool false]) ∧ w' = w := Any.Buffer_tryGrow_none Tryz.laysM251 b ao l cap n w c0 hlc hcap hn
def Tryz.laysM290_ren : Go.Shelf.Ren := ⟨fun | 290 => 187 | 324 => 188 | n => n, fun | 37 => 22 | 3 => 3 | 0 => 0 | 4 => 4 | 20 => 20 | 75 => 101 | 5 => 5 | 80 => 103 | 9 => 9 | n => n, fun | 14 => 9 | n => n⟩
theorem Tryz.laysM290 : Go.Proofs.LaysM.n290 Tryz.prog Tryz.laysM290_ren := {
  mixed := by kernel_rfl
  f290 := Tryz.func187.trans (congrArg some (by kernel_rfl))
  f324 := Tryz.func188.trans (congrArg some (by kernel_rfl))
  t0 := Tryz.underlying0
  a0 := Tryz.isAgg0
  z0 := Tryz.sizeOf0
  v0 := Tryz.zeroValue0
  t3 := Tryz.underlying3
  a3 := Tryz.isAgg3
  z3 := Tryz.sizeOf3
  v3 := Tryz.zeroValue3
  t4 := Tryz.underlying4
  a4 := Tryz.isAgg4
  z4 := Tryz.sizeOf4
  v4 := Tryz.zeroValue4
  t20 := Tryz.underlying20
  a20 := Tryz.isAgg20
  z20 := Tryz.sizeOf20
  v20 := Tryz.zeroValue20
  t37 := Tryz.underlying22
  a37 := Tryz.isAgg22
  z37 := Tryz.sizeOf22
  v37 := Tryz.zeroValue22
  t75 := Tryz.underlying101
  a75 := Tryz.isAgg101
  z75 := Tryz.sizeOf101
  v75 := Tryz.zeroValue101
  g14 := by kernel_rfl
  t5 := Tryz.underlying5
  a5 := Tryz.isAgg5
  z5 := Tryz.sizeOf5
  v5 := Tryz.zeroValue5
  t9 := Tryz.underlying9
  a9 := Tryz.isAgg9
  z9 := Tryz.sizeOf9
  v9 := Tryz.zeroValue9
  t80 := Tryz.underlying103
  a80 := Tryz.isAgg103
  z80 := Tryz.sizeOf103
  v80 := Tryz.zeroValue103
  i0 := by kernel_rfl
  i3 := by kernel_rfl
  i4 := by kernel_rfl
  i5 := by kernel_rfl
  i9 := by kernel_rfl
  i20 := by kernel_rfl
  i37 := by kernel_rfl
  i75 := by kernel_rfl
  i80 := by kernel_rfl
  m14 := by kernel_rfl }
open Go.RowKit in
theorem Tryz.bytes_growSlice_row (g l c n : Nat) (cur : Array Value) (w : World) (hg : w.heap[g]? = some (.cells cur 5 (0, 0))) (hcs : cur.size = c) (hlc : l ≤ c) (hn : 1 ≤ n) (hlim : l + n ≤ 140737488355328) (hc2 : c ≤ 140737488355328) (h1 : ∀ v ∈ cur.toList.take l, v.oneCell' = true) :
    Calls Tryz.prog 187 #[.slice (some ⟨g, 0, none⟩) l c, .int .i64 n] w fun e w' => ∃ cap2 cells, e = .returned (.slice (some ⟨w.heap.size, 0, none⟩) l cap2) ∧ w'.heap[w.heap.size]? = some (.cells cells 5 (0, 0)) ∧
      cells.size = cap2 ∧ cells.toList.take l = cur.toList.take l ∧ l + n ≤ cap2 ∧ cap2 ≤ maxLen ∧ Below w.heap.size w w' := Any.bytes_growSlice_row Tryz.laysM290 g l c n cur w hg hcs hlc hn hlim hc2 h1
open Go.RowKit in
theorem Tryz.bytes_growSlice_nil (n : Nat) (w : World) (hn : 1 ≤ n) (hlim : n ≤ 140737488355328) :
    Calls Tryz.prog 187 #[.slice none 0 0, .int .i64 n] w fun e w' => ∃ cap2 cells, e = .returned (.slice (some ⟨w.heap.size, 0, none⟩) 0 cap2) ∧ w'.heap[w.heap.size]? = some (.cells cells 5 (0, 0)) ∧
      cells.size = cap2 ∧ n ≤ cap2 ∧ cap2 ≤ maxLen ∧ Below w.heap.size w w' := Any.bytes_growSlice_nil Tryz.laysM290 n w hn hlim
def Tryz.lays238_ren : Go.Shelf.Ren := ⟨fun | 238 => 42 | 273 => 48 | 197 => 49 | 271 => 64 | 260 => 65 | 120 => 89 | n => n, fun | 9 => 9 | 40 => 132 | 4 => 4 | 3 => 3 | 105 => 149 | 21 => 21 | 5 => 5 | 119 => 220 | 0 => 0 | 46 => 23 | 139 => 223 | 138 => 222 | n => n, fun | 3 => 1 | 4 => 2 | n => n⟩
theorem Tryz.lays238 : Go.Proofs.Lays.n238 Tryz.prog Tryz.lays238_ren := {
  mixed := by kernel_rfl
  f120 := Tryz.func89.trans (congrArg some (by kernel_rfl))
  f197 := Tryz.func49.trans (congrArg some (by kernel_rfl))
  f238 := Tryz.func42.trans (congrArg some (by kernel_rfl))
  f260 := Tryz.func65.trans (congrArg some (by kernel_rfl))
  f271 := Tryz.func64.trans (congrArg some (by kernel_rfl))
  f273 := Tryz.func48.trans (congrArg some (by kernel_rfl))
  t0 := Tryz.underlying0
  a0 := Tryz.isAgg0
  z0 := Tryz.sizeOf0
  v0 := Tryz.zeroValue0
  t3 := Tryz.underlying3
  a3 := Tryz.isAgg3
  z3 := Tryz.sizeOf3
  v3 := Tryz.zeroValue3
  t4 := Tryz.underlying4
  a4 := Tryz.isAgg4
  z4 := Tryz.sizeOf4
  v4 := Tryz.zeroValue4
  t5 := Tryz.underlying5
  a5 := Tryz.isAgg5
  z5 := Tryz.sizeOf5
  v5 := Tryz.zeroValue5
  t9 := Tryz.underlying9
  a9 := Tryz.isAgg9
  z9 := Tryz.sizeOf9
  v9 := Tryz.zeroValue9
  t21 := Tryz.underlying21
  a21 := Tryz.isAgg21
  z21 := Tryz.sizeOf21
  v21 := Tryz.zeroValue21
  t40 := Tryz.underlying132
  a40 := Tryz.isAgg132
  z40 := Tryz.sizeOf132
  v40 := Tryz.zeroValue132
  t46 := Tryz.underlying23
  a46 := Tryz.isAgg23
  z46 := Tryz.sizeOf23
  v46 := Tryz.zeroValue23
  t105 := Tryz.underlying149
  a105 := Tryz.isAgg149
  z105 := Tryz.sizeOf149
  v105 := Tryz.zeroValue149
  t119 := Tryz.underlying220
  a119 := Tryz.isAgg220
  z119 := Tryz.sizeOf220
  t138 := Tryz.underlying222
  a138 := Tryz.isAgg222
  z138 := Tryz.sizeOf222
  v138 := Tryz.zeroValue222
  t139 := Tryz.underlying223
  a139 := Tryz.isAgg223
  z139 := Tryz.sizeOf223
  v139 := Tryz.zeroValue223
  g3 := by kernel_rfl
  g4 := by kernel_rfl }
def Tryz.lays199_ren : Go.Shelf.Ren := ⟨fun | 199 => 43 | 261 => 50 | 311 => 66 | 312 => 67 | n => n, fun | 21 => 21 | 4 => 4 | 51 => 43 | 141 => 152 | 0 => 0 | 196 => 187 | 193 => 184 | 3 => 3 | 198 => 190 | 49 => 188 | 194 => 185 | 201 => 193 | 226 => 224 | 46 => 23 | 227 => 225 | n => n, fun | 6 => 0 | n => n⟩
theorem Tryz.lays199 : Go.Proofs.Lays.n199 Tryz.prog Tryz.lays199_ren := {
  mixed := by kernel_rfl
  f199 := Tryz.func43.trans (congrArg some (by kernel_rfl))
  f261 := Tryz.func50.trans (congrArg some (by kernel_rfl))
  f311 := Tryz.func66.trans (congrArg some (by kernel_rfl))
  f312 := Tryz.func67.trans (congrArg some (by kernel_rfl))
  t0 := Tryz.underlying0
  a0 := Tryz.isAgg0
  z0 := Tryz.sizeOf0
  v0 := Tryz.zeroValue0
  t3 := Tryz.underlying3
  a3 := Tryz.isAgg3
  z3 := Tryz.sizeOf3
  v3 := Tryz.zeroValue3
  t4 := Tryz.underlying4
  a4 := Tryz.isAgg4
  z4 := Tryz.sizeOf4
  v4 := Tryz.zeroValue4
  t21 := Tryz.underlying21
  a21 := Tryz.isAgg21
  z21 := Tryz.sizeOf21
  v21 := Tryz.zeroValue21
  t46 := Tryz.underlying23
  a46 := Tryz.isAgg23
  z46 := Tryz.sizeOf23
  v46 := Tryz.zeroValue23
  t49 := Tryz.underlying188
  a49 := Tryz.isAgg188
  z49 := Tryz.sizeOf188
  v49 := Tryz.zeroValue188
  t51 := Tryz.underlying43
  a51 := Tryz.isAgg43
  z51 := Tryz.sizeOf43
  v51 := Tryz.zeroValue43
  t141 := Tryz.underlying152
  a141 := Tryz.isAgg152
  z141 := Tryz.sizeOf152
  v141 := Tryz.zeroValue152
  t193 := Tryz.underlying184
  a193 := Tryz.isAgg184
  z193 := Tryz.sizeOf184
  v193 := Tryz.zeroValue184
  t194 := Tryz.underlying185
  a194 := Tryz.isAgg185
  z194 := Tryz.sizeOf185
  v194 := Tryz.zeroValue185
  t196 := Tryz.underlying187
  a196 := Tryz.isAgg187
  z196 := Tryz.sizeOf187
  v196 := Tryz.zeroValue187
  t198 := Tryz.underlying190
  a198 := Tryz.isAgg190
  z198 := Tryz.sizeOf190
  v198 := Tryz.zeroValue190
  t201 := Tryz.underlying193
  a201 := Tryz.isAgg193
  z201 := Tryz.sizeOf193
  v201 := Tryz.zeroValue193
  t226 := Tryz.underlying224
  a226 := Tryz.isAgg224
  z226 := Tryz.sizeOf224
  v226 := Tryz.zeroValue224
  t227 := Tryz.underlying225
  a227 := Tryz.isAgg225
  z227 := Tryz.sizeOf225
  v227 := Tryz.zeroValue225
  g6 := by kernel_rfl }
open Go.RowKit Go.Lib in
theorem Tryz.unicode_IsSpace_any (r : Int) (w : World) (hlo : -2147483648 ≤ r) (hhi : r ≤ 2147483647) (hW : Lib.WhiteTab 0 w) :
    Calls Tryz.prog 43 #[.int .i32 r] w fun e w' => e = .returned (.bool (Lib.isSpaceZ r)) ∧ Below w.heap.size w w' := Any.unicode_IsSpace_any Tryz.lays199 r w hlo hhi hW
open Go.RowKit Go.Lib in
theorem Tryz.strings_TrimRightFunc_grows (g : Nat) (lb : Array Value) (eg : ∀ args w, (callFunc g args).run Tryz.prog w = .ok (.enter g args) w) (p : Nat → Bool) (s : ByteArray) (w : World) (hs : s.size ≤ 9223372036854775807) (hT : Lib.Utf8Tabs 1 2 w) (hp : PredGrows Tryz.prog g lb p w) :
    Calls Tryz.prog 42 #[.string s, .func (.func g) #[] lb] w fun e w' => e = .returned (.string (Lib.trimRightF p s)) ∧ Below w.heap.size w w' := Any.strings_TrimRightFunc_grows Tryz.lays238 g lb eg p s w hs hT hp
end Go.Proofs
