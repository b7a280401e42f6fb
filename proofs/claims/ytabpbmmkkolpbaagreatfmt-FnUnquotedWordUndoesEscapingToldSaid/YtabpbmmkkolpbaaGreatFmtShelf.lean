/-
  The contracts of library functions that these proofs use, laid at this program by the kit's own tool in plain words.
-/
import Derived.Shelf.Bytes.GrowSlice
import Derived.Shelf.Bytes.TryGrow
import Derived.Shelf.Strings.Builder1
import Derived.Shelf.Strings.FuncGrows
import Derived.Shelf.Strings.Trim
import Derived.Shelf.Unicode.IsSpaceAny
import Derived.Shelf.Utf8.RuneCount
import Derived.Test.YtabpbmmkkolpbaaGreatFmtProg
namespace Go.Proofs
open Go.Shelf
def Tryz.lays169_ren : Go.Shelf.Ren := ⟨fun | 169 => 36 | n => n, fun | 70 => 47 | 9 => 9 | 0 => 0 | 72 => 49 | 37 => 31 | 127 => 117 | 3 => 3 | 5 => 5 | n => n, fun | n => n⟩
theorem Tryz.lays169 : Go.Proofs.Lays.n169 Tryz.prog Tryz.lays169_ren := {
  mixed := by kernel_rfl
  f169 := Tryz.func36.trans (congrArg some (by kernel_rfl))
  t0 := Tryz.underlying0
  a0 := Tryz.isAgg0
  z0 := Tryz.sizeOf0
  v0 := Tryz.zeroValue0
  t3 := Tryz.underlying3
  a3 := Tryz.isAgg3
  z3 := Tryz.sizeOf3
  v3 := Tryz.zeroValue3
  t9 := Tryz.underlying9
  a9 := Tryz.isAgg9
  z9 := Tryz.sizeOf9
  v9 := Tryz.zeroValue9
  t37 := Tryz.underlying31
  a37 := Tryz.isAgg31
  z37 := Tryz.sizeOf31
  v37 := Tryz.zeroValue31
  t70 := Tryz.underlying47
  a70 := Tryz.isAgg47
  z70 := Tryz.sizeOf47
  v70 := Tryz.zeroValue47
  t72 := Tryz.underlying49
  a72 := Tryz.isAgg49
  z72 := Tryz.sizeOf49
  v72 := Tryz.zeroValue49
  t127 := Tryz.underlying117
  a127 := Tryz.isAgg117
  z127 := Tryz.sizeOf117
  v127 := Tryz.zeroValue117 }
theorem Tryz.Builder_Extra_169 : Builder.Extra Tryz.prog Tryz.lays169_ren := {
  sizeBuilder := by kernel_rfl
  liesBuilder := by kernel_rfl
  t5 := Tryz.underlying5
  a5 := Tryz.isAgg5
  z5 := Tryz.sizeOf5
  v5 := Tryz.zeroValue5
  infoByte := by kernel_rfl
  cellsByte := by kernel_rfl
  sizeByte := by kernel_rfl
  neB5 := by decide }
open Go.RowKit in
theorem Tryz.Builder_String_any (B b : Nat) (l : List UInt8) (w : World) (h : Lib.IsBuilder 49 5 B b (Lib.byteCells l) w) (hBw : B ≤ w.heap.size) :
    Calls Tryz.prog 36 #[.pointer (some ⟨b, 0, none⟩)] w fun e w' => e = .returned (.string ⟨l.toArray⟩) ∧ Below B w w' := Any.Builder_String_any Tryz.lays169 Tryz.Builder_Extra_169 B b l w h hBw
def Tryz.lays162_ren : Go.Shelf.Ren := ⟨fun | 162 => 106 | 232 => 141 | 227 => 142 | 234 => 143 | 236 => 144 | 228 => 164 | 271 => 165 | 151 => 166 | 120 => 179 | 197 => 152 | 152 => 180 | 260 => 167 | 137 => 189 | 119 => 190 | 224 => 191 | 225 => 192 | 217 => 205 | 266 => 211 | n => n, fun | 9 => 9 | 4 => 4 | 3 => 3 | 5 => 5 | 117 => 291 | 116 => 290 | 0 => 0 | 124 => 294 | 21 => 21 | 105 => 315 | 46 => 75 | 119 => 368 | 139 => 371 | 138 => 370 | n => n, fun | 3 => 3 | 4 => 4 | n => n⟩
theorem Tryz.lays162 : Go.Proofs.Lays.n162 Tryz.prog Tryz.lays162_ren := {
  mixed := by kernel_rfl
  f119 := Tryz.func190.trans (congrArg some (by kernel_rfl))
  f120 := Tryz.func179.trans (congrArg some (by kernel_rfl))
  f137 := Tryz.func189.trans (congrArg some (by kernel_rfl))
  f151 := Tryz.func166.trans (congrArg some (by kernel_rfl))
  f152 := Tryz.func180.trans (congrArg some (by kernel_rfl))
  f162 := Tryz.func106.trans (congrArg some (by kernel_rfl))
  f197 := Tryz.func152.trans (congrArg some (by kernel_rfl))
  f217 := Tryz.func205.trans (congrArg some (by kernel_rfl))
  f224 := Tryz.func191.trans (congrArg some (by kernel_rfl))
  f225 := Tryz.func192.trans (congrArg some (by kernel_rfl))
  f227 := Tryz.func142.trans (congrArg some (by kernel_rfl))
  f228 := Tryz.func164.trans (congrArg some (by kernel_rfl))
  f232 := Tryz.func141.trans (congrArg some (by kernel_rfl))
  f234 := Tryz.func143.trans (congrArg some (by kernel_rfl))
  f236 := Tryz.func144.trans (congrArg some (by kernel_rfl))
  f260 := Tryz.func167.trans (congrArg some (by kernel_rfl))
  f266 := Tryz.func211.trans (congrArg some (by kernel_rfl))
  f271 := Tryz.func165.trans (congrArg some (by kernel_rfl))
  t0 := Tryz.underlying0
  a0 := Tryz.isAgg0
  z0 := Tryz.sizeOf0
  v0 := Tryz.zeroValue0
  t3 := Tryz.underlying3
  a3 := Tryz.isAgg3
  z3 := Tryz.sizeOf3
  v3 := Tryz.zeroValue3
  t4 := Tryz.underlying4
  a4 := Tryz.isAgg4
  z4 := Tryz.sizeOf4
  v4 := Tryz.zeroValue4
  t5 := Tryz.underlying5
  a5 := Tryz.isAgg5
  z5 := Tryz.sizeOf5
  v5 := Tryz.zeroValue5
  t9 := Tryz.underlying9
  a9 := Tryz.isAgg9
  z9 := Tryz.sizeOf9
  v9 := Tryz.zeroValue9
  t21 := Tryz.underlying21
  a21 := Tryz.isAgg21
  z21 := Tryz.sizeOf21
  v21 := Tryz.zeroValue21
  t46 := Tryz.underlying75
  a46 := Tryz.isAgg75
  z46 := Tryz.sizeOf75
  v46 := Tryz.zeroValue75
  t105 := Tryz.underlying315
  a105 := Tryz.isAgg315
  z105 := Tryz.sizeOf315
  v105 := Tryz.zeroValue315
  t116 := Tryz.underlying290
  a116 := Tryz.isAgg290
  z116 := Tryz.sizeOf290
  t117 := Tryz.underlying291
  a117 := Tryz.isAgg291
  z117 := Tryz.sizeOf291
  v117 := Tryz.zeroValue291
  t119 := Tryz.underlying368
  a119 := Tryz.isAgg368
  z119 := Tryz.sizeOf368
  t124 := Tryz.underlying294
  a124 := Tryz.isAgg294
  z124 := Tryz.sizeOf294
  v124 := Tryz.zeroValue294
  t138 := Tryz.underlying370
  a138 := Tryz.isAgg370
  z138 := Tryz.sizeOf370
  v138 := Tryz.zeroValue370
  t139 := Tryz.underlying371
  a139 := Tryz.isAgg371
  z139 := Tryz.sizeOf371
  v139 := Tryz.zeroValue371
  g3 := by kernel_rfl
  g4 := by kernel_rfl }
open Go.RowKit in
theorem Tryz.strings_TrimRight_one (s : ByteArray) (c : UInt8) (hc : c.toNat < 128) (w : World) (hs : s.size ≤ 9223372036854775807) :
    Calls Tryz.prog 106 #[.string s, .string ⟨#[c]⟩] w fun e w' => e = .returned (.string ⟨(Lib.trimRightB s.data.toList c).toArray⟩) ∧ w' = w := Any.strings_TrimRight_one Tryz.lays162 s c hc w hs
def Tryz.lays195_ren : Go.Shelf.Ren := ⟨fun | 195 => 206 | n => n, fun | 9 => 9 | 3 => 3 | 0 => 0 | 4 => 4 | n => n, fun | n => n⟩
theorem Tryz.lays195 : Go.Proofs.Lays.n195 Tryz.prog Tryz.lays195_ren := {
  mixed := by kernel_rfl
  f195 := Tryz.func206.trans (congrArg some (by kernel_rfl))
  t0 := Tryz.underlying0
  a0 := Tryz.isAgg0
  z0 := Tryz.sizeOf0
  v0 := Tryz.zeroValue0
  t3 := Tryz.underlying3
  a3 := Tryz.isAgg3
  z3 := Tryz.sizeOf3
  v3 := Tryz.zeroValue3
  t4 := Tryz.underlying4
  a4 := Tryz.isAgg4
  z4 := Tryz.sizeOf4
  v4 := Tryz.zeroValue4
  t9 := Tryz.underlying9
  a9 := Tryz.isAgg9
  z9 := Tryz.sizeOf9
  v9 := Tryz.zeroValue9 }
open Go.RowKit in
theorem Tryz.utf8_RuneCountInString (s : ByteArray) (w : World) (hs : s.size < 9223372036854775807) :
    Calls Tryz.prog 206 #[.string s] w fun e w' => e = .returned (.int .i64 (Lib.runeCount s)) ∧ ∃ pos, w' = w.iter s pos := Any.utf8_RuneCountInString Tryz.lays195 s w hs
def Tryz.laysM251_ren : Go.Shelf.Ren := ⟨fun | 251 => 258 | n => n, fun | 130 => 100 | 3 => 3 | 4 => 4 | 0 => 0 | 93 => 98 | 37 => 31 | 91 => 96 | 5 => 5 | n => n, fun | n => n⟩
theorem Tryz.laysM251 : Go.Proofs.LaysM.n251 Tryz.prog Tryz.laysM251_ren := {
  mixed := by kernel_rfl
  f251 := Tryz.func258.trans (congrArg some (by kernel_rfl))
  t0 := Tryz.underlying0
  a0 := Tryz.isAgg0
  z0 := Tryz.sizeOf0
  v0 := Tryz.zeroValue0
  t3 := Tryz.underlying3
  a3 := Tryz.isAgg3
  z3 := Tryz.sizeOf3
  v3 := Tryz.zeroValue3
  t4 := Tryz.underlying4
  a4 := Tryz.isAgg4
  z4 := Tryz.sizeOf4
  v4 := Tryz.zeroValue4
  t37 := Tryz.underlying31
  a37 := Tryz.isAgg31
  z37 := Tryz.sizeOf31
  v37 := Tryz.zeroValue31
  t93 := Tryz.underlying98
  a93 := Tryz.isAgg98
  z93 := Tryz.sizeOf98
  v93 := Tryz.zeroValue98
  t130 := Tryz.underlying100
  a130 := Tryz.isAgg100
  z130 := Tryz.sizeOf100
  v130 := Tryz.zeroValue100
  t5 := Tryz.underlying5
  a5 := Tryz.isAgg5
  z5 := Tryz.sizeOf5
  v5 := Tryz.zeroValue5
  t91 := Tryz.underlying96
  a91 := Tryz.isAgg96
  z91 := Tryz.sizeOf96
  v91 := Tryz.zeroValue96
  i0 := by kernel_rfl
  i3 := by kernel_rfl
  i4 := by kernel_rfl
  i5 := by kernel_rfl
  i37 := by kernel_rfl
  i91 := by kernel_rfl
  i93 := by kernel_rfl
  i130 := by kernel_rfl }
open Go.RowKit in
theorem Tryz.Buffer_tryGrow_room (b : Nat) (ao : Option Addr) (l cap n : Nat) (w : World) (c0 : w.cell? ⟨b, 0, none⟩ = some (.slice ao l cap)) (f0 : w.frozen? ⟨b, 0, none⟩ = false) (hlc : l ≤ cap) (hcap : cap ≤ maxLen) (hn : n ≤ cap - l) :
    Calls Tryz.prog 258 #[.pointer (some ⟨b, 0, none⟩), .int .i64 n] w fun e w' => e = .returned (.tuple #[.int .i64 l, .bool true]) ∧ w' = w.setCell ⟨b, 0, none⟩ (.slice ao (l + n) cap) := Any.Buffer_tryGrow_room Tryz.laysM251 b ao l cap n w c0 f0 hlc hcap hn
open Go.RowKit in
theorem Tryz.Buffer_tryGrow_none (b : Nat) (ao : Option Addr) (l cap n : Nat) (w : World) (c0 : w.cell? ⟨b, 0, none⟩ = some (.slice ao l cap)) (hlc : l ≤ cap) (hcap : cap ≤ maxLen) (hn : cap - l < n) :
    Calls Tryz.prog 258 #[.pointer (some ⟨b, 0, none⟩), .int .i64 n] w fun e w' => e = .returned (.tuple #[.int .i64 0, .bool false]) ∧ w' = w := Any.Buffer_tryGrow_none Tryz.laysM251 b ao l cap n w c0 hlc hcap hn
def Tryz.laysM290_ren : Go.Shelf.Ren := ⟨fun | 290 => 261 | 324 => 262 | n => n, fun | 37 => 31 | 3 => 3 | 0 => 0 | 4 => 4 | 20 => 20 | 75 => 55 | 5 => 5 | 80 => 57 | 9 => 9 | n => n, fun | 14 => 10 | n => n⟩
theorem Tryz.laysM290 : Go.Proofs.LaysM.n290 Tryz.prog Tryz.laysM290_ren := {
  mixed := by kernel_rfl
  f290 := Tryz.func261.trans (congrArg some (by kernel_rfl))
  f324 := Tryz.func262.trans (congrArg some (by kernel_rfl))
  t0 := Tryz.underlying0
  a0 := Tryz.isAgg0
  z0 := Tryz.sizeOf0
  v0 := Tryz.zeroValue0
  t3 := Tryz.underlying3
  a3 := Tryz.isAgg3
  z3 := Tryz.sizeOf3
  v3 := Tryz.zeroValue3
  t4 := Tryz.underlying4
  a4 := Tryz.isAgg4
  z4 := Tryz.sizeOf4
  v4 := Tryz.zeroValue4
  t20 := Tryz.underlying20
  a20 := Tryz.isAgg20
  z20 := Tryz.sizeOf20
  v20 := Tryz.zeroValue20
  t37 := Tryz.underlying31
  a37 := Tryz.isAgg31
  z37 := Tryz.sizeOf31
  v37 := Tryz.zeroValue31
  t75 := Tryz.underlying55
  a75 := Tryz.isAgg55
  z75 := Tryz.sizeOf55
  v75 := Tryz.zeroValue55
  g14 := by kernel_rfl
  t5 := Tryz.underlying5
  a5 := Tryz.isAgg5
  z5 := Tryz.sizeOf5
  v5 := Tryz.zeroValue5
  t9 := Tryz.underlying9
  a9 := Tryz.isAgg9
  z9 := Tryz.sizeOf9
  v9 := Tryz.zeroValue9
  t80 := Tryz.underlying57
  a80 := Tryz.isAgg57
  z80 := Tryz.sizeOf57
  v80 := Tryz.zeroValue57
  i0 := by kernel_rfl
  i3 := by kernel_rfl
  i4 := by kernel_rfl
  i5 := by kernel_rfl
  i9 := by kernel_rfl
  i20 := by kernel_rfl
  i37 := by kernel_rfl
  i75 := by kernel_rfl
  i80 := by kernel_rfl
  m14 := by kernel_rfl }
open Go.RowKit in
theorem Tryz.bytes_growSlice_row (g l c n : Nat) (cur : Array Value) (w : World) (hg : w.heap[g]? = some (.cells cur 5 (0, 0))) (hcs : cur.size = c) (hlc : l ≤ c) (hn : 1 ≤ n) (hlim : l + n ≤ 140737488355328) (hc2 : c ≤ 140737488355328) (h1 : ∀ v ∈ cur.toList.take l, v.oneCell' = true) :
    Calls Tryz.prog 261 #[.slice (some ⟨g, 0, none⟩) l c, .int .i64 n] w fun e w' => ∃ cap2 cells, e = .returned (.slice (some ⟨w.heap.size, 0, none⟩) l cap2) ∧ w'.heap[w.heap.size]? = some (.cells cells 5 (0, 0)) ∧
      cells.size = cap2 ∧ cells.toList.take l = cur.toList.take l ∧ l + n ≤ cap2 ∧ cap2 ≤ maxLen ∧ Below w.heap.size w w' := Any.bytes_growSlice_row Tryz.laysM290 g l c n cur w hg hcs hlc hn hlim hc2 h1
open Go.RowKit in
theorem Tryz.bytes_growSlice_nil (n : Nat) (w : World) (hn : 1 ≤ n) (hlim : n ≤ 140737488355328) :
    Calls Tryz.prog 261 #[.slice none 0 0, .int .i64 n] w fun e w' => ∃ cap2 cells, e = .returned (.slice (some ⟨w.heap.size, 0, none⟩) 0 cap2) ∧ w'.heap[w.heap.size]? = some (.cells cells 5 (0, 0)) ∧
      cells.size = cap2 ∧ n ≤ cap2 ∧ cap2 ≤ maxLen ∧ Below w.heap.size w w' := Any.bytes_growSlice_nil Tryz.laysM290 n w hn hlim
def Tryz.lays238_ren : Go.Shelf.Ren := ⟨fun | 238 => 122 | 273 => 151 | 197 => 152 | 271 => 165 | 260 => 167 | 120 => 179 | n => n, fun | 9 => 9 | 40 => 269 | 4 => 4 | 3 => 3 | 105 => 315 | 21 => 21 | 5 => 5 | 119 => 368 | 0 => 0 | 46 => 75 | 139 => 371 | 138 => 370 | n => n, fun | 3 => 3 | 4 => 4 | n => n⟩
theorem Tryz.lays238 : Go.Proofs.Lays.n238 Tryz.prog Tryz.lays238_ren := {
  mixed := by kernel_rfl
  f120 := Tryz.func179.trans (congrArg some (by kernel_rfl))
  f197 := Tryz.func152.trans (congrArg some (by kernel_rfl))
  f238 := Tryz.func122.trans (congrArg some (by kernel_rfl))
  f260 := Tryz.func167.trans (congrArg some (by kernel_rfl))
  f271 := Tryz.func165.trans (congrArg some (by kernel_rfl))
  f273 := Tryz.func151.trans (congrArg some (by kernel_rfl))
  t0 := Tryz.underlying0
  a0 := Tryz.isAgg0
  z0 := Tryz.sizeOf0
  v0 := Tryz.zeroValue0
  t3 := Tryz.underlying3
  a3 := Tryz.isAgg3
  z3 := Tryz.sizeOf3
  v3 := Tryz.zeroValue3
  t4 := Tryz.underlying4
  a4 := Tryz.isAgg4
  z4 := Tryz.sizeOf4
  v4 := Tryz.zeroValue4
  t5 := Tryz.underlying5
  a5 := Tryz.isAgg5
  z5 := Tryz.sizeOf5
  v5 := Tryz.zeroValue5
  t9 := Tryz.underlying9
  a9 := Tryz.isAgg9
  z9 := Tryz.sizeOf9
  v9 := Tryz.zeroValue9
  t21 := Tryz.underlying21
  a21 := Tryz.isAgg21
  z21 := Tryz.sizeOf21
  v21 := Tryz.zeroValue21
  t40 := Tryz.underlying269
  a40 := Tryz.isAgg269
  z40 := Tryz.sizeOf269
  v40 := Tryz.zeroValue269
  t46 := Tryz.underlying75
  a46 := Tryz.isAgg75
  z46 := Tryz.sizeOf75
  v46 := Tryz.zeroValue75
  t105 := Tryz.underlying315
  a105 := Tryz.isAgg315
  z105 := Tryz.sizeOf315
  v105 := Tryz.zeroValue315
  t119 := Tryz.underlying368
  a119 := Tryz.isAgg368
  z119 := Tryz.sizeOf368
  t138 := Tryz.underlying370
  a138 := Tryz.isAgg370
  z138 := Tryz.sizeOf370
  v138 := Tryz.zeroValue370
  t139 := Tryz.underlying371
  a139 := Tryz.isAgg371
  z139 := Tryz.sizeOf371
  v139 := Tryz.zeroValue371
  g3 := by kernel_rfl
  g4 := by kernel_rfl }
def Tryz.lays199_ren : Go.Shelf.Ren := ⟨fun | 199 => 123 | 261 => 153 | 311 => 168 | 312 => 169 | n => n, fun | 21 => 21 | 4 => 4 | 51 => 60 | 141 => 318 | 0 => 0 | 196 => 352 | 193 => 349 | 3 => 3 | 198 => 354 | 49 => 323 | 194 => 350 | 201 => 357 | 226 => 372 | 46 => 75 | 227 => 373 | n => n, fun | 6 => 1 | n => n⟩
theorem Tryz.lays199 : Go.Proofs.Lays.n199 Tryz.prog Tryz.lays199_ren := {
  mixed := by kernel_rfl
  f199 := Tryz.func123.trans (congrArg some (by kernel_rfl))
  f261 := Tryz.func153.trans (congrArg some (by kernel_rfl))
  f311 := Tryz.func168.trans (congrArg some (by kernel_rfl))
  f312 := Tryz.func169.trans (congrArg some (by kernel_rfl))
  t0 := Tryz.underlying0
  a0 := Tryz.isAgg0
  z0 := Tryz.sizeOf0
  v0 := Tryz.zeroValue0
  t3 := Tryz.underlying3
  a3 := Tryz.isAgg3
  z3 := Tryz.sizeOf3
  v3 := Tryz.zeroValue3
  t4 := Tryz.underlying4
  a4 := Tryz.isAgg4
  z4 := Tryz.sizeOf4
  v4 := Tryz.zeroValue4
  t21 := Tryz.underlying21
  a21 := Tryz.isAgg21
  z21 := Tryz.sizeOf21
  v21 := Tryz.zeroValue21
  t46 := Tryz.underlying75
  a46 := Tryz.isAgg75
  z46 := Tryz.sizeOf75
  v46 := Tryz.zeroValue75
  t49 := Tryz.underlying323
  a49 := Tryz.isAgg323
  z49 := Tryz.sizeOf323
  v49 := Tryz.zeroValue323
  t51 := Tryz.underlying60
  a51 := Tryz.isAgg60
  z51 := Tryz.sizeOf60
  v51 := Tryz.zeroValue60
  t141 := Tryz.underlying318
  a141 := Tryz.isAgg318
  z141 := Tryz.sizeOf318
  v141 := Tryz.zeroValue318
  t193 := Tryz.underlying349
  a193 := Tryz.isAgg349
  z193 := Tryz.sizeOf349
  v193 := Tryz.zeroValue349
  t194 := Tryz.underlying350
  a194 := Tryz.isAgg350
  z194 := Tryz.sizeOf350
  v194 := Tryz.zeroValue350
  t196 := Tryz.underlying352
  a196 := Tryz.isAgg352
  z196 := Tryz.sizeOf352
  v196 := Tryz.zeroValue352
  t198 := Tryz.underlying354
  a198 := Tryz.isAgg354
  z198 := Tryz.sizeOf354
  v198 := Tryz.zeroValue354
  t201 := Tryz.underlying357
  a201 := Tryz.isAgg357
  z201 := Tryz.sizeOf357
  v201 := Tryz.zeroValue357
  t226 := Tryz.underlying372
  a226 := Tryz.isAgg372
  z226 := Tryz.sizeOf372
  v226 := Tryz.zeroValue372
  t227 := Tryz.underlying373
  a227 := Tryz.isAgg373
  z227 := Tryz.sizeOf373
  v227 := Tryz.zeroValue373
  g6 := by kernel_rfl }
open Go.RowKit Go.Lib in
theorem Tryz.unicode_IsSpace_any (r : Int) (w : World) (hlo : -2147483648 ≤ r) (hhi : r ≤ 2147483647) (hW : Lib.WhiteTab 1 w) :
    Calls Tryz.prog 123 #[.int .i32 r] w fun e w' => e = .returned (.bool (Lib.isSpaceZ r)) ∧ Below w.heap.size w w' := Any.unicode_IsSpace_any Tryz.lays199 r w hlo hhi hW
open Go.RowKit Go.Lib in
theorem Tryz.strings_TrimRightFunc_grows (g : Nat) (lb : Array Value) (eg : ∀ args w, (callFunc g args).run Tryz.prog w = .ok (.enter g args) w) (p : Nat → Bool) (s : ByteArray) (w : World) (hs : s.size ≤ 9223372036854775807) (hT : Lib.Utf8Tabs 3 4 w) (hp : PredGrows Tryz.prog g lb p w) :
    Calls Tryz.prog 122 #[.string s, .func (.func g) #[] lb] w fun e w' => e = .returned (.string (Lib.trimRightF p s)) ∧ Below w.heap.size w w' := Any.strings_TrimRightFunc_grows Tryz.lays238 g lb eg p s w hs hT hp
end Go.Proofs
