/-
  The contracts of library functions that these proofs use, laid at this program by the kit's own tool in plain words.
-/
import Derived.Shelf.Bytes.GrowSlice
import Derived.Shelf.Bytes.TryGrow
import Derived.Shelf.Strings.Builder1
import Derived.Shelf.Strings.FuncGrows
import Derived.Shelf.Strings.Trim
import Derived.Shelf.Unicode.IsSpaceAny
import Derived.Shelf.Utf8.RuneCount
import Derived.Test.YtdfgcopelfmcmaaGreatFmtProg
namespace Go.Proofs
open Go.Shelf
def Tryz.lays169_ren : Go.Shelf.Ren := ⟨fun | 169 => 182 | n => n, fun | 70 => 363 | 9 => 9 | 0 => 0 | 72 => 365 | 37 => 42 | 127 => 382 | 3 => 3 | 5 => 5 | n => n, fun | n => n⟩
theorem Tryz.lays169 : Go.Proofs.Lays.n169 Tryz.prog Tryz.lays169_ren := {
  mixed := by kernel_rfl
  f169 := Tryz.func182.trans (congrArg some (by kernel_rfl))
  t0 := Tryz.underlying0
  a0 := Tryz.isAgg0
  z0 := Tryz.sizeOf0
  v0 := Tryz.zeroValue0
  t3 := Tryz.underlying3
  a3 := Tryz.isAgg3
  z3 := Tryz.sizeOf3
  v3 := Tryz.zeroValue3
  t9 := Tryz.underlying9
  a9 := Tryz.isAgg9
  z9 := Tryz.sizeOf9
  v9 := Tryz.zeroValue9
  t37 := Tryz.underlying42
  a37 := Tryz.isAgg42
  z37 := Tryz.sizeOf42
  v37 := Tryz.zeroValue42
  t70 := Tryz.underlying363
  a70 := Tryz.isAgg363
  z70 := Tryz.sizeOf363
  v70 := Tryz.zeroValue363
  t72 := Tryz.underlying365
  a72 := Tryz.isAgg365
  z72 := Tryz.sizeOf365
  v72 := Tryz.zeroValue365
  t127 := Tryz.underlying382
  a127 := Tryz.isAgg382
  z127 := Tryz.sizeOf382
  v127 := Tryz.zeroValue382 }
theorem Tryz.Builder_Extra_169 : Builder.Extra Tryz.prog Tryz.lays169_ren := {
  sizeBuilder := by kernel_rfl
  liesBuilder := by kernel_rfl
  t5 := Tryz.underlying5
  a5 := Tryz.isAgg5
  z5 := Tryz.sizeOf5
  v5 := Tryz.zeroValue5
  infoByte := by kernel_rfl
  cellsByte := by kernel_rfl
  sizeByte := by kernel_rfl
  neB5 := by decide }
open Go.RowKit in
theorem Tryz.Builder_String_any (B b : Nat) (l : List UInt8) (w : World) (h : Lib.IsBuilder 365 5 B b (Lib.byteCells l) w) (hBw : B ≤ w.heap.size) :
    Calls Tryz.prog 182 #[.pointer (some ⟨b, 0, none⟩)] w fun e w' => e = .returned (.string ⟨l.toArray⟩) ∧ Below B w w' := Any.Builder_String_any Tryz.lays169 Tryz.Builder_Extra_169 B b l w h hBw
def Tryz.lays162_ren : Go.Shelf.Ren := ⟨fun | 162 => 107 | 232 => 143 | 227 => 144 | 234 => 145 | 236 => 146 | 228 => 167 | 271 => 168 | 151 => 169 | 120 => 183 | 197 => 154 | 152 => 184 | 260 => 170 | 137 => 193 | 119 => 194 | 224 => 195 | 225 => 196 | 217 => 209 | 266 => 215 | n => n, fun | 9 => 9 | 4 => 4 | 3 => 3 | 5 => 5 | 117 => 284 | 116 => 283 | 0 => 0 | 124 => 287 | 21 => 21 | 105 => 310 | 46 => 35 | 119 => 368 | 139 => 371 | 138 => 370 | n => n, fun | 3 => 2 | 4 => 3 | n => n⟩
theorem Tryz.lays162 : Go.Proofs.Lays.n162 Tryz.prog Tryz.lays162_ren := {
  mixed := by kernel_rfl
  f119 := Tryz.func194.trans (congrArg some (by kernel_rfl))
  f120 := Tryz.func183.trans (congrArg some (by kernel_rfl))
  f137 := Tryz.func193.trans (congrArg some (by kernel_rfl))
  f151 := Tryz.func169.trans (congrArg some (by kernel_rfl))
  f152 := Tryz.func184.trans (congrArg some (by kernel_rfl))
  f162 := Tryz.func107.trans (congrArg some (by kernel_rfl))
  f197 := Tryz.func154.trans (congrArg some (by kernel_rfl))
  f217 := Tryz.func209.trans (congrArg some (by kernel_rfl))
  f224 := Tryz.func195.trans (congrArg some (by kernel_rfl))
  f225 := Tryz.func196.trans (congrArg some (by kernel_rfl))
  f227 := Tryz.func144.trans (congrArg some (by kernel_rfl))
  f228 := Tryz.func167.trans (congrArg some (by kernel_rfl))
  f232 := Tryz.func143.trans (congrArg some (by kernel_rfl))
  f234 := Tryz.func145.trans (congrArg some (by kernel_rfl))
  f236 := Tryz.func146.trans (congrArg some (by kernel_rfl))
  f260 := Tryz.func170.trans (congrArg some (by kernel_rfl))
  f266 := Tryz.func215.trans (congrArg some (by kernel_rfl))
  f271 := Tryz.func168.trans (congrArg some (by kernel_rfl))
  t0 := Tryz.underlying0
  a0 := Tryz.isAgg0
  z0 := Tryz.sizeOf0
  v0 := Tryz.zeroValue0
  t3 := Tryz.underlying3
  a3 := Tryz.isAgg3
  z3 := Tryz.sizeOf3
  v3 := Tryz.zeroValue3
  t4 := Tryz.underlying4
  a4 := Tryz.isAgg4
  z4 := Tryz.sizeOf4
  v4 := Tryz.zeroValue4
  t5 := Tryz.underlying5
  a5 := Tryz.isAgg5
  z5 := Tryz.sizeOf5
  v5 := Tryz.zeroValue5
  t9 := Tryz.underlying9
  a9 := Tryz.isAgg9
  z9 := Tryz.sizeOf9
  v9 := Tryz.zeroValue9
  t21 := Tryz.underlying21
  a21 := Tryz.isAgg21
  z21 := Tryz.sizeOf21
  v21 := Tryz.zeroValue21
  t46 := Tryz.underlying35
  a46 := Tryz.isAgg35
  z46 := Tryz.sizeOf35
  v46 := Tryz.zeroValue35
  t105 := Tryz.underlying310
  a105 := Tryz.isAgg310
  z105 := Tryz.sizeOf310
  v105 := Tryz.zeroValue310
  t116 := Tryz.underlying283
  a116 := Tryz.isAgg283
  z116 := Tryz.sizeOf283
  t117 := Tryz.underlying284
  a117 := Tryz.isAgg284
  z117 := Tryz.sizeOf284
  v117 := Tryz.zeroValue284
  t119 := Tryz.underlying368
  a119 := Tryz.isAgg368
  z119 := Tryz.sizeOf368
  t124 := Tryz.underlying287
  a124 := Tryz.isAgg287
  z124 := Tryz.sizeOf287
  v124 := Tryz.zeroValue287
  t138 := Tryz.underlying370
  a138 := Tryz.isAgg370
  z138 := Tryz.sizeOf370
  v138 := Tryz.zeroValue370
  t139 := Tryz.underlying371
  a139 := Tryz.isAgg371
  z139 := Tryz.sizeOf371
  v139 := Tryz.zeroValue371
  g3 := by kernel_rfl
  g4 := by kernel_rfl }
open Go.RowKit in
theorem Tryz.strings_TrimRight_one (s : ByteArray) (c : UInt8) (hc : c.toNat < 128) (w : World) (hs : s.size ≤ 9223372036854775807) :
    Calls Tryz.prog 107 #[.string s, .string ⟨#[c]⟩] w fun e w' => e = .returned (.string ⟨(Lib.trimRightB s.data.toList c).toArray⟩) ∧ w' = w := Any.strings_TrimRight_one Tryz.lays162 s c hc w hs
def Tryz.lays195_ren : Go.Shelf.Ren := ⟨fun | 195 => 210 | n => n, fun | 9 => 9 | 3 => 3 | 0 => 0 | 4 => 4 | n => n, fun | n => n⟩
theorem Tryz.lays195 : Go.Proofs.Lays.n195 Tryz.prog Tryz.lays195_ren := {
  mixed := by kernel_rfl
  f195 := Tryz.func210.trans (congrArg some (by kernel_rfl))
  t0 := Tryz.underlying0
  a0 := Tryz.isAgg0
  z0 := Tryz.sizeOf0
  v0 := Tryz.zeroValue0
  t3 := Tryz.underlying3
  a3 := Tryz.isAgg3
  z3 := Tryz.sizeOf3
  v3 := Tryz.zeroValue3
  t4 := Tryz.underlying4
  a4 := Tryz.isAgg4
  z4 := Tryz.sizeOf4
  v4 := Tryz.zeroValue4
  t9 := Tryz.underlying9
  a9 := Tryz.isAgg9
  z9 := Tryz.sizeOf9
  v9 := Tryz.zeroValue9 }
open Go.RowKit in
theorem Tryz.utf8_RuneCountInString (s : ByteArray) (w : World) (hs : s.size < 9223372036854775807) :
    Calls Tryz.prog 210 #[.string s] w fun e w' => e = .returned (.int .i64 (Lib.runeCount s)) ∧ ∃ pos, w' = w.iter s pos := Any.utf8_RuneCountInString Tryz.lays195 s w hs
def Tryz.laysM251_ren : Go.Shelf.Ren := ⟨fun | 251 => 263 | n => n, fun | 130 => 111 | 3 => 3 | 4 => 4 | 0 => 0 | 93 => 110 | 37 => 42 | 91 => 108 | 5 => 5 | n => n, fun | n => n⟩
theorem Tryz.laysM251 : Go.Proofs.LaysM.n251 Tryz.prog Tryz.laysM251_ren := {
  mixed := by kernel_rfl
  f251 := Tryz.func263.trans (congrArg some (by kernel_rfl))
  t0 := Tryz.underlying0
  a0 := Tryz.isAgg0
  z0 := Tryz.sizeOf0
  v0 := Tryz.zeroValue0
  t3 := Tryz.underlying3
  a3 := Tryz.isAgg3
  z3 := Tryz.sizeOf3
  v3 := Tryz.zeroValue3
  t4 := Tryz.underlying4
  a4 := Tryz.isAgg4
  z4 := Tryz.sizeOf4
  v4 := Tryz.zeroValue4
  t37 := Tryz.underlying42
  a37 := Tryz.isAgg42
  z37 := Tryz.sizeOf42
  v37 := Tryz.zeroValue42
  t93 := Tryz.underlying110
  a93 := Tryz.isAgg110
  z93 := Tryz.sizeOf110
  v93 := Tryz.zeroValue110
  t130 := Tryz.underlying111
  a130 := Tryz.isAgg111
  z130 := Tryz.sizeOf111
  v130 := Tryz.zeroValue111
  t5 := Tryz.underlying5
  a5 := Tryz.isAgg5
  z5 := Tryz.sizeOf5
  v5 := Tryz.zeroValue5
  t91 := Tryz.underlying108
  a91 := Tryz.isAgg108
  z91 := Tryz.sizeOf108
  v91 := Tryz.zeroValue108
  i0 := by kernel_rfl
  i3 := by kernel_rfl
  i4 := by kernel_rfl
  i5 := by kernel_rfl
  i37 := by kernel_rfl
  i91 := by kernel_rfl
  i93 := by kernel_rfl
  i130 := by kernel_rfl }
open Go.RowKit in
theorem Tryz.Buffer_tryGrow_room (b : Nat) (ao : Option Addr) (l cap n : Nat) (w : World) (c0 : w.cell? ⟨b, 0, none⟩ = some (.slice ao l cap)) (f0 : w.frozen? ⟨b, 0, none⟩ = false) (hlc : l ≤ cap) (hcap : cap ≤ maxLen) (hn : n ≤ cap - l) :
    Calls Tryz.prog 263 #[.pointer (some ⟨b, 0, none⟩), .int .i64 n] w fun e w' => e = .returned (.tuple #[.int .i64 l, .bool true]) ∧ w' = w.setCell ⟨b, 0, none⟩ (.slice ao (l + n) cap) := Any.Buffer_tryGrow_room Tryz.laysM251 b ao l cap n w c0 f0 hlc hcap hn
open Go.RowKit in
theorem Tryz.Buffer_tryGrow_none (b : Nat) (ao : Option Addr) (l cap n : Nat) (w : World) (c0 : w.cell? ⟨b, 0, none⟩ = some (.slice ao l cap)) (hlc : l ≤ cap) (hcap : cap ≤ maxLen) (hn : cap - l < n) :
    Calls Tryz.prog 263 #[.pointer (some ⟨b, 0, none⟩), .int .i64 n] w fun e w' => e = .returned (.tuple #[.int .i64 0, .bool false]) ∧ w' = w := Any.Buffer_tryGrow_none Tryz.laysM251 b ao l cap n w c0 hlc hcap hn
def Tryz.laysM290_ren : Go.Shelf.Ren := ⟨fun | 290 => 266 | 324 => 267 | n => n, fun | 37 => 42 | 3 => 3 | 0 => 0 | 4 => 4 | 20 => 20 | 75 => 46 | 5 => 5 | 80 => 112 | 9 => 9 | n => n, fun | 14 => 10 | n => n⟩
theorem Tryz.laysM290 : Go.Proofs.LaysM.n290 Tryz.prog Tryz.laysM290_ren := {
  mixed := by kernel_rfl
  f290 := Tryz.func266.trans (congrArg some (by kernel_rfl))
  f324 := Tryz.func267.trans (congrArg some (by kernel_rfl))
  t0 := Tryz.underlying0
  a0 := Tryz.isAgg0
  z0 := Tryz.sizeOf0
  v0 := Tryz.zeroValue0
  t3 := Tryz.underlying3
  a3 := Tryz.isAgg3
  z3 := Tryz.sizeOf3
  v3 := Tryz.zeroValue3
  t4 := Tryz.underlying4
  a4 := Tryz.isAgg4
  z4 := Tryz.sizeOf4
  v4 := Tryz.zeroValue4
  t20 := Tryz.underlying20
  a20 := Tryz.isAgg20
  z20 := Tryz.sizeOf20
  v20 := Tryz.zeroValue20
  t37 := Tryz.underlying42
  a37 := Tryz.isAgg42
  z37 := Tryz.sizeOf42
  v37 := Tryz.zeroValue42
  t75 := Tryz.underlying46
  a75 := Tryz.isAgg46
  z75 := Tryz.sizeOf46
  v75 := Tryz.zeroValue46
  g14 := by kernel_rfl
  t5 := Tryz.underlying5
  a5 := Tryz.isAgg5
  z5 := Tryz.sizeOf5
  v5 := Tryz.zeroValue5
  t9 := Tryz.underlying9
  a9 := Tryz.isAgg9
  z9 := Tryz.sizeOf9
  v9 := Tryz.zeroValue9
  t80 := Tryz.underlying112
  a80 := Tryz.isAgg112
  z80 := Tryz.sizeOf112
  v80 := Tryz.zeroValue112
  i0 := by kernel_rfl
  i3 := by kernel_rfl
  i4 := by kernel_rfl
  i5 := by kernel_rfl
  i9 := by kernel_rfl
  i20 := by kernel_rfl
  i37 := by kernel_rfl
  i75 := by kernel_rfl
  i80 := by kernel_rfl
  m14 := by kernel_rfl }
open Go.RowKit in
theorem Tryz.bytes_growSlice_row (g l c n : Nat) (cur : Array Value) (w : World) (hg : w.heap[g]? = some (.cells cur 5 (0, 0))) (hcs : cur.size = c) (hlc : l ≤ c) (hn : 1 ≤ n) (hlim : l + n ≤ 140737488355328) (hc2 : c ≤ 140737488355328) (h1 : ∀ v ∈ cur.toList.take l, v.oneCell' = true) :
    Calls Tryz.prog 266 #[.slice (some ⟨g, 0, none⟩) l c, .int .i64 n] w fun e w' => ∃ cap2 cells, e = .returned (.slice (some ⟨w.heap.size, 0, none⟩) l cap2) ∧ w'.heap[w.heap.size]? = some (.cells cells 5 (0, 0)) ∧
      cells.size = cap2 ∧ cells.toList.take l = cur.toList.take l ∧ l + n ≤ cap2 ∧ cap2 ≤ maxLen ∧ Below w.heap.size w w' := Any.bytes_growSlice_row Tryz.laysM290 g l c n cur w hg hcs hlc hn hlim hc2 h1
open Go.RowKit in
theorem Tryz.bytes_growSlice_nil (n : Nat) (w : World) (hn : 1 ≤ n) (hlim : n ≤ 140737488355328) :
    Calls Tryz.prog 266 #[.slice none 0 0, .int .i64 n] w fun e w' => ∃ cap2 cells, e = .returned (.slice (some ⟨w.heap.size, 0, none⟩) 0 cap2) ∧ w'.heap[w.heap.size]? = some (.cells cells 5 (0, 0)) ∧
      cells.size = cap2 ∧ n ≤ cap2 ∧ cap2 ≤ maxLen ∧ Below w.heap.size w w' := Any.bytes_growSlice_nil Tryz.laysM290 n w hn hlim
def Tryz.lays238_ren : Go.Shelf.Ren := ⟨fun | 238 => 124 | 273 => 153 | 197 => 154 | 271 => 168 | 260 => 170 | 120 => 183 | n => n, fun | 9 => 9 | 40 => 260 | 4 => 4 | 3 => 3 | 105 => 310 | 21 => 21 | 5 => 5 | 119 => 368 | 0 => 0 | 46 => 35 | 139 => 371 | 138 => 370 | n => n, fun | 3 => 2 | 4 => 3 | n => n⟩
theorem Tryz.lays238 : Go.Proofs.Lays.n238 Tryz.prog Tryz.lays238_ren := {
  mixed := by kernel_rfl
  f120 := Tryz.func183.trans (congrArg some (by kernel_rfl))
  f197 := Tryz.func154.trans (congrArg some (by kernel_rfl))
  f238 := Tryz.func124.trans (congrArg some (by kernel_rfl))
  f260 := Tryz.func170.trans (congrArg some (by kernel_rfl))
  f271 := Tryz.func168.trans (congrArg some (by kernel_rfl))
  f273 := Tryz.func153.trans (congrArg some (by kernel_rfl))
  t0 := Tryz.underlying0
  a0 := Tryz.isAgg0
  z0 := Tryz.sizeOf0
  v0 := Tryz.zeroValue0
  t3 := Tryz.underlying3
  a3 := Tryz.isAgg3
  z3 := Tryz.sizeOf3
  v3 := Tryz.zeroValue3
  t4 := Tryz.underlying4
  a4 := Tryz.isAgg4
  z4 := Tryz.sizeOf4
  v4 := Tryz.zeroValue4
  t5 := Tryz.underlying5
  a5 := Tryz.isAgg5
  z5 := Tryz.sizeOf5
  v5 := Tryz.zeroValue5
  t9 := Tryz.underlying9
  a9 := Tryz.isAgg9
  z9 := Tryz.sizeOf9
  v9 := Tryz.zeroValue9
  t21 := Tryz.underlying21
  a21 := Tryz.isAgg21
  z21 := Tryz.sizeOf21
  v21 := Tryz.zeroValue21
  t40 := Tryz.underlying260
  a40 := Tryz.isAgg260
  z40 := Tryz.sizeOf260
  v40 := Tryz.zeroValue260
  t46 := Tryz.underlying35
  a46 := Tryz.isAgg35
  z46 := Tryz.sizeOf35
  v46 := Tryz.zeroValue35
  t105 := Tryz.underlying310
  a105 := Tryz.isAgg310
  z105 := Tryz.sizeOf310
  v105 := Tryz.zeroValue310
  t119 := Tryz.underlying368
  a119 := Tryz.isAgg368
  z119 := Tryz.sizeOf368
  t138 := Tryz.underlying370
  a138 := Tryz.isAgg370
  z138 := Tryz.sizeOf370
  v138 := Tryz.zeroValue370
  t139 := Tryz.underlying371
  a139 := Tryz.isAgg371
  z139 := Tryz.sizeOf371
  v139 := Tryz.zeroValue371
  g3 := by kernel_rfl
  g4 := by kernel_rfl }
def Tryz.lays199_ren : Go.Shelf.Ren := ⟨fun | 199 => 125 | 261 => 155 | 311 => 171 | 312 => 172 | n => n, fun | 21 => 21 | 4 => 4 | 51 => 88 | 141 => 313 | 0 => 0 | 196 => 349 | 193 => 346 | 3 => 3 | 198 => 351 | 49 => 318 | 194 => 347 | 201 => 354 | 226 => 372 | 46 => 35 | 227 => 373 | n => n, fun | 6 => 0 | n => n⟩
theorem Tryz.lays199 : Go.Proofs.Lays.n199 Tryz.prog Tryz.lays199_ren := {
  mixed := by kernel_rfl
  f199 := Tryz.func125.trans (congrArg some (by kernel_rfl))
  f261 := Tryz.func155.trans (congrArg some (by kernel_rfl))
  f311 := Tryz.func171.trans (congrArg some (by kernel_rfl))
  f312 := Tryz.func172.trans (congrArg some (by kernel_rfl))
  t0 := Tryz.underlying0
  a0 := Tryz.isAgg0
  z0 := Tryz.sizeOf0
  v0 := Tryz.zeroValue0
  t3 := Tryz.underlying3
  a3 := Tryz.isAgg3
  z3 := Tryz.sizeOf3
  v3 := Tryz.zeroValue3
  t4 := Tryz.underlying4
  a4 := Tryz.isAgg4
  z4 := Tryz.sizeOf4
  v4 := Tryz.zeroValue4
  t21 := Tryz.underlying21
  a21 := Tryz.isAgg21
  z21 := Tryz.sizeOf21
  v21 := Tryz.zeroValue21
  t46 := Tryz.underlying35
  a46 := Tryz.isAgg35
  z46 := Tryz.sizeOf35
  v46 := Tryz.zeroValue35
  t49 := Tryz.underlying318
  a49 := Tryz.isAgg318
  z49 := Tryz.sizeOf318
  v49 := Tryz.zeroValue318
  t51 := Tryz.underlying88
  a51 := Tryz.isAgg88
  z51 := Tryz.sizeOf88
  v51 := Tryz.zeroValue88
  t141 := Tryz.underlying313
  a141 := Tryz.isAgg313
  z141 := Tryz.sizeOf313
  v141 := Tryz.zeroValue313
  t193 := Tryz.underlying346
  a193 := Tryz.isAgg346
  z193 := Tryz.sizeOf346
  v193 := Tryz.zeroValue346
  t194 := Tryz.underlying347
  a194 := Tryz.isAgg347
  z194 := Tryz.sizeOf347
  v194 := Tryz.zeroValue347
  t196 := Tryz.underlying349
  a196 := Tryz.isAgg349
  z196 := Tryz.sizeOf349
  v196 := Tryz.zeroValue349
  t198 := Tryz.underlying351
  a198 := Tryz.isAgg351
  z198 := Tryz.sizeOf351
  v198 := Tryz.zeroValue351
  t201 := Tryz.underlying354
  a201 := Tryz.isAgg354
  z201 := Tryz.sizeOf354
  v201 := Tryz.zeroValue354
  t226 := Tryz.underlying372
  a226 := Tryz.isAgg372
  z226 := Tryz.sizeOf372
  v226 := Tryz.zeroValue372
  t227 := Tryz.underlying373
  a227 := Tryz.isAgg373
  z227 := Tryz.sizeOf373
  v227 := Tryz.zeroValue373
  g6 := by kernel_rfl }
open Go.RowKit Go.Lib in
theorem Tryz.unicode_IsSpace_any (r : Int) (w : World) (hlo : -2147483648 ≤ r) (hhi : r ≤ 2147483647) (hW : Lib.WhiteTab 0 w) :
    Calls Tryz.prog 125 #[.int .i32 r] w fun e w' => e = .returned (.bool (Lib.isSpaceZ r)) ∧ Below w.heap.size w w' := Any.unicode_IsSpace_any Tryz.lays199 r w hlo hhi hW
open Go.RowKit Go.Lib in
theorem Tryz.strings_TrimRightFunc_grows (g : Nat) (lb : Array Value) (eg : ∀ args w, (callFunc g args).run Tryz.prog w = .ok (.enter g args) w) (p : Nat → Bool) (s : ByteArray) (w : World) (hs : s.size ≤ 9223372036854775807) (hT : Lib.Utf8Tabs 2 3 w) (hp : PredGrows Tryz.prog g lb p w) :
    Calls Tryz.prog 124 #[.string s, .func (.func g) #[] lb] w fun e w' => e = .returned (.string (Lib.trimRightF p s)) ∧ Below w.heap.size w w' := Any.strings_TrimRightFunc_grows Tryz.lays238 g lb eg p s w hs hT hp
end Go.Proofs
