/-
  The contracts of library functions that these proofs use, laid at this program by the kit's own tool in plain words.
-/
import Derived.Shelf.Bytes.GrowSlice
import Derived.Shelf.Bytes.TryGrow
import Derived.Shelf.Strings.Builder1
import Derived.Shelf.Strings.FuncGrows
import Derived.Shelf.Strings.Trim
import Derived.Shelf.Unicode.IsSpaceAny
import Derived.Shelf.Utf8.RuneCount
import Derived.Test.YtmdkpihlhdjjaaaGreatFmtProg
namespace Go.Proofs
open Go.Shelf
def Tryz.lays169_ren : Go.Shelf.Ren := ⟨fun | 169 => 184 | n => n, fun | 70 => 383 | 9 => 9 | 0 => 0 | 72 => 385 | 37 => 31 | 127 => 401 | 3 => 3 | 5 => 5 | n => n, fun | n => n⟩
theorem Tryz.lays169 : Go.Proofs.Lays.n169 Tryz.prog Tryz.lays169_ren := {
  mixed := by kernel_rfl
  f169 := Tryz.func184.trans (congrArg some (by kernel_rfl))
  t0 := Tryz.underlying0
  a0 := Tryz.isAgg0
  z0 := Tryz.sizeOf0
  v0 := Tryz.zeroValue0
  t3 := Tryz.underlying3
  a3 := Tryz.isAgg3
  z3 := Tryz.sizeOf3
  v3 := Tryz.zeroValue3
  t9 := Tryz.underlying9
  a9 := Tryz.isAgg9
  z9 := Tryz.sizeOf9
  v9 := Tryz.zeroValue9
  t37 := Tryz.underlying31
  a37 := Tryz.isAgg31
  z37 := Tryz.sizeOf31
  v37 := Tryz.zeroValue31
  t70 := Tryz.underlying383
  a70 := Tryz.isAgg383
  z70 := Tryz.sizeOf383
  v70 := Tryz.zeroValue383
  t72 := Tryz.underlying385
  a72 := Tryz.isAgg385
  z72 := Tryz.sizeOf385
  v72 := Tryz.zeroValue385
  t127 := Tryz.underlying401
  a127 := Tryz.isAgg401
  z127 := Tryz.sizeOf401
  v127 := Tryz.zeroValue401 }
theorem Tryz.Builder_Extra_169 : Builder.Extra Tryz.prog Tryz.lays169_ren := {
  sizeBuilder := by kernel_rfl
  liesBuilder := by kernel_rfl
  t5 := Tryz.underlying5
  a5 := Tryz.isAgg5
  z5 := Tryz.sizeOf5
  v5 := Tryz.zeroValue5
  infoByte := by kernel_rfl
  cellsByte := by kernel_rfl
  sizeByte := by kernel_rfl
  neB5 := by decide }
open Go.RowKit in
theorem Tryz.Builder_String_any (B b : Nat) (l : List UInt8) (w : World) (h : Lib.IsBuilder 385 5 B b (Lib.byteCells l) w) (hBw : B ≤ w.heap.size) :
    Calls Tryz.prog 184 #[.pointer (some ⟨b, 0, none⟩)] w fun e w' => e = .returned (.string ⟨l.toArray⟩) ∧ Below B w w' := Any.Builder_String_any Tryz.lays169 Tryz.Builder_Extra_169 B b l w h hBw
def Tryz.lays162_ren : Go.Shelf.Ren := ⟨fun | 162 => 104 | 232 => 144 | 227 => 145 | 234 => 146 | 236 => 147 | 228 => 169 | 271 => 170 | 151 => 171 | 120 => 185 | 197 => 155 | 152 => 186 | 260 => 172 | 137 => 195 | 119 => 196 | 224 => 197 | 225 => 198 | 217 => 211 | 266 => 217 | n => n, fun | 9 => 9 | 4 => 4 | 3 => 3 | 5 => 5 | 117 => 305 | 116 => 304 | 0 => 0 | 124 => 308 | 21 => 21 | 105 => 331 | 46 => 22 | 119 => 388 | 139 => 391 | 138 => 390 | n => n, fun | 3 => 2 | 4 => 3 | n => n⟩
theorem Tryz.lays162 : Go.Proofs.Lays.n162 Tryz.prog Tryz.lays162_ren := {
  mixed := by kernel_rfl
  f119 := Tryz.func196.trans (congrArg some (by kernel_rfl))
  f120 := Tryz.func185.trans (congrArg some (by kernel_rfl))
  f137 := Tryz.func195.trans (congrArg some (by kernel_rfl))
  f151 := Tryz.func171.trans (congrArg some (by kernel_rfl))
  f152 := Tryz.func186.trans (congrArg some (by kernel_rfl))
  f162 := Tryz.func104.trans (congrArg some (by kernel_rfl))
  f197 := Tryz.func155.trans (congrArg some (by kernel_rfl))
  f217 := Tryz.func211.trans (congrArg some (by kernel_rfl))
  f224 := Tryz.func197.trans (congrArg some (by kernel_rfl))
  f225 := Tryz.func198.trans (congrArg some (by kernel_rfl))
  f227 := Tryz.func145.trans (congrArg some (by kernel_rfl))
  f228 := Tryz.func169.trans (congrArg some (by kernel_rfl))
  f232 := Tryz.func144.trans (congrArg some (by kernel_rfl))
  f234 := Tryz.func146.trans (congrArg some (by kernel_rfl))
  f236 := Tryz.func147.trans (congrArg some (by kernel_rfl))
  f260 := Tryz.func172.trans (congrArg some (by kernel_rfl))
  f266 := Tryz.func217.trans (congrArg some (by kernel_rfl))
  f271 := Tryz.func170.trans (congrArg some (by kernel_rfl))
  t0 := Tryz.underlying0
  a0 := Tryz.isAgg0
  z0 := Tryz.sizeOf0
  v0 := Tryz.zeroValue0
  t3 := Tryz.underlying3
  a3 := Tryz.isAgg3
  z3 := Tryz.sizeOf3
  v3 := Tryz.zeroValue3
  t4 := Tryz.underlying4
  a4 := Tryz.isAgg4
  z4 := Tryz.sizeOf4
  v4 := Tryz.zeroValue4
  t5 := Tryz.underlying5
  a5 := Tryz.isAgg5
  z5 := Tryz.sizeOf5
  v5 := Tryz.zeroValue5
  t9 := Tryz.underlying9
  a9 := Tryz.isAgg9
  z9 := Tryz.sizeOf9
  v9 := Tryz.zeroValue9
  t21 := Tryz.underlying21
  a21 := Tryz.isAgg21
  z21 := Tryz.sizeOf21
  v21 := Tryz.zeroValue21
  t46 := Tryz.underlying22
  a46 := Tryz.isAgg22
  z46 := Tryz.sizeOf22
  v46 := Tryz.zeroValue22
  t105 := Tryz.underlying331
  a105 := Tryz.isAgg331
  z105 := Tryz.sizeOf331
  v105 := Tryz.zeroValue331
  t116 := Tryz.underlying304
  a116 := Tryz.isAgg304
  z116 := Tryz.sizeOf304
  t117 := Tryz.underlying305
  a117 := Tryz.isAgg305
  z117 := Tryz.sizeOf305
  v117 := Tryz.zeroValue305
  t119 := Tryz.underlying388
  a119 := Tryz.isAgg388
  z119 := Tryz.sizeOf388
  t124 := Tryz.underlying308
  a124 := Tryz.isAgg308
  z124 := Tryz.sizeOf308
  v124 := Tryz.zeroValue308
  t138 := Tryz.underlying390
  a138 := Tryz.isAgg390
  z138 := Tryz.sizeOf390
  v138 := Tryz.zeroValue390
  t139 := Tryz.underlying391
  a139 := Tryz.isAgg391
  z139 := Tryz.sizeOf391
  v139 := Tryz.zeroValue391
  g3 := by kernel_rfl
  g4 := by kernel_rfl }
open Go.RowKit in
theorem Tryz.strings_TrimRight_one (s : ByteArray) (c : UInt8) (hc : c.toNat < 128) (w : World) (hs : s.size ≤ 9223372036854775807) :
    Calls Tryz.prog 104 #[.string s, .string ⟨#[c]⟩] w fun e w' => e = .returned (.string ⟨(Lib.trimRightB s.data.toList c).toArray⟩) ∧ w' = w := Any.strings_TrimRight_one Tryz.lays162 s c hc w hs
def Tryz.lays195_ren : Go.Shelf.Ren := ⟨fun | 195 => 212 | n => n, fun | 9 => 9 | 3 => 3 | 0 => 0 | 4 => 4 | n => n, fun | n => n⟩
theorem Tryz.lays195 : Go.Proofs.Lays.n195 Tryz.prog Tryz.lays195_ren := {
  mixed := by kernel_rfl
  f195 := Tryz.func212.trans (congrArg some (by kernel_rfl))
  t0 := Tryz.underlying0
  a0 := Tryz.isAgg0
  z0 := Tryz.sizeOf0
  v0 := Tryz.zeroValue0
  t3 := Tryz.underlying3
  a3 := Tryz.isAgg3
  z3 := Tryz.sizeOf3
  v3 := Tryz.zeroValue3
  t4 := Tryz.underlying4
  a4 := Tryz.isAgg4
  z4 := Tryz.sizeOf4
  v4 := Tryz.zeroValue4
  t9 := Tryz.underlying9
  a9 := Tryz.isAgg9
  z9 := Tryz.sizeOf9
  v9 := Tryz.zeroValue9 }
open Go.RowKit in
theorem Tryz.utf8_RuneCountInString (s : ByteArray) (w : World) (hs : s.size < 9223372036854775807) :
    Calls Tryz.prog 212 #[.string s] w fun e w' => e = .returned (.int .i64 (Lib.runeCount s)) ∧ ∃ pos, w' = w.iter s pos := Any.utf8_RuneCountInString Tryz.lays195 s w hs
def Tryz.laysM251_ren : Go.Shelf.Ren := ⟨fun | 251 => 259 | n => n, fun | 130 => 121 | 3 => 3 | 4 => 4 | 0 => 0 | 93 => 131 | 37 => 31 | 91 => 129 | 5 => 5 | n => n, fun | n => n⟩
theorem Tryz.laysM251 : Go.Proofs.LaysM.n251 Tryz.prog Tryz.laysM251_ren := {
  mixed := by kernel_rfl
  f251 := Tryz.func259.trans (congrArg some (by kernel_rfl))
  t0 := Tryz.underlying0
  a0 := Tryz.isAgg0
  z0 := Tryz.sizeOf0
  v0 := Tryz.zeroValue0
  t3 := Tryz.underlying3
  a3 := Tryz.isAgg3
  z3 := Tryz.sizeOf3
  v3 := Tryz.zeroValue3
  t4 := Tryz.underlying4
  a4 := Tryz.isAgg4
  z4 := Tryz.sizeOf4
  v4 := Tryz.zeroValue4
  t37 := Tryz.underlying31
  a37 := Tryz.isAgg31
  z37 := Tryz.sizeOf31
  v37 := Tryz.zeroValue31
  t93 := Tryz.underlying131
  a93 := Tryz.isAgg131
  z93 := Tryz.sizeOf131
  v93 := Tryz.zeroValue131
  t130 := Tryz.underlying121
  a130 := Tryz.isAgg121
  z130 := Tryz.sizeOf121
  v130 := Tryz.zeroValue121
  t5 := Tryz.underlying5
  a5 := Tryz.isAgg5
  z5 := Tryz.sizeOf5
  v5 := Tryz.zeroValue5
  t91 := Tryz.underlying129
  a91 := Tryz.isAgg129
  z91 := Tryz.sizeOf129
  v91 := Tryz.zeroValue129
  i0 := by kernel_rfl
  i3 := by kernel_rfl
  i4 := by kernel_rfl
  i5 := by kernel_rfl
  i37 := by kernel_rfl
  i91 := by kernel_rfl
  i93 := by kernel_rfl
  i130 := by kernel_rfl }
open Go.RowKit in
theorem Tryz.Buffer_tryGrow_room (b : Nat) (ao : Option Addr) (l cap n : Nat) (w : World) (c0 : w.cell? ⟨b, 0, none⟩ = some (.slice ao l cap)) (f0 : w.frozen? ⟨b, 0, none⟩ = false) (hlc : l ≤ cap) (hcap : cap ≤ maxLen) (hn : n ≤ cap - l) :
    Calls Tryz.prog 259 #[.pointer (some ⟨b, 0, none⟩), .int .i64 n] w fun e w' => e = .returned (.tuple #[.int .i64 l, .bool true]) ∧ w' = w.setCell ⟨b, 0, none⟩ (.slice ao (l + n) cap) := Any.Buffer_tryGrow_room Tryz.laysM251 b ao l cap n w c0 f0 hlc hcap hn
open Go.RowKit in
theorem Tryz.Buffer_tryGrow_none (b : Nat) (ao : Option Addr) (l cap n : Nat) (w : World) (c0 : w.cell? ⟨b, 0, none⟩ = some (.slice ao l cap)) (hlc : l ≤ cap) (hcap : cap ≤ maxLen) (hn : cap - l < n) :
    Calls Tryz.prog 259 #[.pointer (some ⟨b, 0, none⟩), .int .i64 n] w fun e w' => e = .returned (.tuple #[.int .i64 0, .bool false]) ∧ w' = w := Any.Buffer_tryGrow_none Tryz.laysM251 b ao l cap n w c0 hlc hcap hn
def Tryz.laysM290_ren : Go.Shelf.Ren := ⟨fun | 290 => 262 | 324 => 263 | n => n, fun | 37 => 31 | 3 => 3 | 0 => 0 | 4 => 4 | 20 => 20 | 75 => 35 | 5 => 5 | 80 => 180 | 9 => 9 | n => n, fun | 14 => 10 | n => n⟩
theorem Tryz.laysM290 : Go.Proofs.LaysM.n290 Tryz.prog Tryz.laysM290_ren := {
  mixed := by kernel_rfl
  f290 := Tryz.func262.trans (congrArg some (by kernel_rfl))
  f324 := Tryz.func263.trans (congrArg some (by kernel_rfl))
  t0 := Tryz.underlying0
  a0 := Tryz.isAgg0
  z0 := Tryz.sizeOf0
  v0 := Tryz.zeroValue0
  t3 := Tryz.underlying3
  a3 := Tryz.isAgg3
  z3 := Tryz.sizeOf3
  v3 := Tryz.zeroValue3
  t4 := Tryz.underlying4
  a4 := Tryz.isAgg4
  z4 := Tryz.sizeOf4
  v4 := Tryz.zeroValue4
  t20 := Tryz.underlying20
  a20 := Tryz.isAgg20
  z20 := Tryz.sizeOf20
  v20 := Tryz.zeroValue20
  t37 := Tryz.underlying31
  a37 := Tryz.isAgg31
  z37 := Tryz.sizeOf31
  v37 := Tryz.zeroValue31
  t75 := Tryz.underlying35
  a75 := Tryz.isAgg35
  z75 := Tryz.sizeOf35
  v75 := Tryz.zeroValue35
  g14 := by kernel_rfl
  t5 := Tryz.underlying5
  a5 := Tryz.isAgg5
  z5 := Tryz.sizeOf5
  v5 := Tryz.zeroValue5
  t9 := Tryz.underlying9
  a9 := Tryz.isAgg9
  z9 := Tryz.sizeOf9
  v9 := Tryz.zeroValue9
  t80 := Tryz.underlying180
  a80 := Tryz.isAgg180
  z80 := Tryz.sizeOf180
  v80 := Tryz.zeroValue180
  i0 := by kernel_rfl
  i3 := by kernel_rfl
  i4 := by kernel_rfl
  i5 := by kernel_rfl
  i9 := by kernel_rfl
  i20 := by kernel_rfl
  i37 := by kernel_rfl
  i75 := by kernel_rfl
  i80 := by kernel_rfl
  m14 := by kernel_rfl }
open Go.RowKit in
theorem Tryz.bytes_growSlice_row (g l c n : Nat) (cur : Array Value) (w : World) (hg : w.heap[g]? = some (.cells cur 5 (0, 0))) (hcs : cur.size = c) (hlc : l ≤ c) (hn : 1 ≤ n) (hlim : l + n ≤ 140737488355328) (hc2 : c ≤ 140737488355328) (h1 : ∀ v ∈ cur.toList.take l, v.oneCell' = true) :
    Calls Tryz.prog 262 #[.slice (some ⟨g, 0, none⟩) l c, .int .i64 n] w fun e w' => ∃ cap2 cells, e = .returned (.slice (some ⟨w.heap.size, 0, none⟩) l cap2) ∧ w'.heap[w.heap.size]? = some (.cells cells 5 (0, 0)) ∧
      cells.size = cap2 ∧ cells.toList.take l = cur.toList.take l ∧ l + n ≤ cap2 ∧ cap2 ≤ maxLen ∧ Below w.heap.size w w' := Any.bytes_growSlice_row Tryz.laysM290 g l c n cur w hg hcs hlc hn hlim hc2 h1
open Go.RowKit in
theorem Tryz.bytes_growSlice_nil (n : Nat) (w : World) (hn : 1 ≤ n) (hlim : n ≤ 140737488355328) :
    Calls Tryz.prog 262 #[.slice none 0 0, .int .i64 n] w fun e w' => ∃ cap2 cells, e = .returned (.slice (some ⟨w.heap.size, 0, none⟩) 0 cap2) ∧ w'.heap[w.heap.size]? = some (.cells cells 5 (0, 0)) ∧
      cells.size = cap2 ∧ n ≤ cap2 ∧ cap2 ≤ maxLen ∧ Below w.heap.size w w' := Any.bytes_growSlice_nil Tryz.laysM290 n w hn hlim
def Tryz.lays238_ren : Go.Shelf.Ren := ⟨fun | 238 => 121 | 273 => 154 | 197 => 155 | 271 => 170 | 260 => 172 | 120 => 185 | n => n, fun | 9 => 9 | 40 => 280 | 4 => 4 | 3 => 3 | 105 => 331 | 21 => 21 | 5 => 5 | 119 => 388 | 0 => 0 | 46 => 22 | 139 => 391 | 138 => 390 | n => n, fun | 3 => 2 | 4 => 3 | n => n⟩
theorem Tryz.lays238 : Go.Proofs.Lays.n238 Tryz.prog Tryz.lays238_ren := {
  mixed := by kernel_rfl
  f120 := Tryz.func185.trans (congrArg some (by kernel_rfl))
  f197 := Tryz.func155.trans (congrArg some (by kernel_rfl))
  f238 := Tryz.func121.trans (congrArg some (by kernel_rfl))
  f260 := Tryz.func172.trans (congrArg some (by kernel_rfl))
  f271 := Tryz.func170.trans (congrArg some (by kernel_rfl))
  f273 := Tryz.func154.trans (congrArg some (by kernel_rfl))
  t0 := Tryz.underlying0
  a0 := Tryz.isAgg0
  z0 := Tryz.sizeOf0
  v0 := Tryz.zeroValue0
  t3 := Tryz.underlying3
  a3 := Tryz.isAgg3
  z3 := Tryz.sizeOf3
  v3 := Tryz.zeroValue3
  t4 := Tryz.underlying4
  a4 := Tryz.isAgg4
  z4 := Tryz.sizeOf4
  v4 := Tryz.zeroValue4
  t5 := Tryz.underlying5
  a5 := Tryz.isAgg5
  z5 := Tryz.sizeOf5
  v5 := Tryz.zeroValue5
  t9 := Tryz.underlying9
  a9 := Tryz.isAgg9
  z9 := Tryz.sizeOf9
  v9 := Tryz.zeroValue9
  t21 := Tryz.underlying21
  a21 := Tryz.isAgg21
  z21 := Tryz.sizeOf21
  v21 := Tryz.zeroValue21
  t40 := Tryz.underlying280
  a40 := Tryz.isAgg280
  z40 := Tryz.sizeOf280
  v40 := Tryz.zeroValue280
  t46 := Tryz.underlying22
  a46 := Tryz.isAgg22
  z46 := Tryz.sizeOf22
  v46 := Tryz.zeroValue22
  t105 := Tryz.underlying331
  a105 := Tryz.isAgg331
  z105 := Tryz.sizeOf331
  v105 := Tryz.zeroValue331
  t119 := Tryz.underlying388
  a119 := Tryz.isAgg388
  z119 := Tryz.sizeOf388
  t138 := Tryz.underlying390
  a138 := Tryz.isAgg390
  z138 := Tryz.sizeOf390
  v138 := Tryz.zeroValue390
  t139 := Tryz.underlying391
  a139 := Tryz.isAgg391
  z139 := Tryz.sizeOf391
  v139 := Tryz.zeroValue391
  g3 := by kernel_rfl
  g4 := by kernel_rfl }
def Tryz.lays199_ren : Go.Shelf.Ren := ⟨fun | 199 => 122 | 261 => 156 | 311 => 173 | 312 => 174 | n => n, fun | 21 => 21 | 4 => 4 | 51 => 38 | 141 => 334 | 0 => 0 | 196 => 369 | 193 => 366 | 3 => 3 | 198 => 371 | 49 => 339 | 194 => 367 | 201 => 374 | 226 => 392 | 46 => 22 | 227 => 393 | n => n, fun | 6 => 0 | n => n⟩
theorem Tryz.lays199 : Go.Proofs.Lays.n199 Tryz.prog Tryz.lays199_ren := {
  mixed := by kernel_rfl
  f199 := Tryz.func122.trans (congrArg some (by kernel_rfl))
  f261 := Tryz.func156.trans (congrArg some (by kernel_rfl))
  f311 := Tryz.func173.trans (congrArg some (by kernel_rfl))
  f312 := Tryz.func174.trans (congrArg some (by kernel_rfl))
  t0 := Tryz.underlying0
  a0 := Tryz.isAgg0
  z0 := Tryz.sizeOf0
  v0 := Tryz.zeroValue0
  t3 := Tryz.underlying3
  a3 := Tryz.isAgg3
  z3 := Tryz.sizeOf3
  v3 := Tryz.zeroValue3
  t4 := Tryz.underlying4
  a4 := Tryz.isAgg4
  z4 := Tryz.sizeOf4
  v4 := Tryz.zeroValue4
  t21 := Tryz.underlying21
  a21 := Tryz.isAgg21
  z21 := Tryz.sizeOf21
  v21 := Tryz.zeroValue21
  t46 := Tryz.underlying22
  a46 := Tryz.isAgg22
  z46 := Tryz.sizeOf22
  v46 := Tryz.zeroValue22
  t49 := Tryz.underlying339
  a49 := Tryz.isAgg339
  z49 := Tryz.sizeOf339
  v49 := Tryz.zeroValue339
  t51 := Tryz.underlying38
  a51 := Tryz.isAgg38
  z51 := Tryz.sizeOf38
  v51 := Tryz.zeroValue38
  t141 := Tryz.underlying334
  a141 := Tryz.isAgg334
  z141 := Tryz.sizeOf334
  v141 := Tryz.zeroValue334
  t193 := Tryz.underlying366
  a193 := Tryz.isAgg366
  z193 := Tryz.sizeOf366
  v193 := Tryz.zeroValue366
  t194 := Tryz.underlying367
  a194 := Tryz.isAgg367
  z194 := Tryz.sizeOf367
  v194 := Tryz.zeroValue367
  t196 := Tryz.underlying369
  a196 := Tryz.isAgg369
  z196 := Tryz.sizeOf369
  v196 := Tryz.zeroValue369
  t198 := Tryz.underlying371
  a198 := Tryz.isAgg371
  z198 := Tryz.sizeOf371
  v198 := Tryz.zeroValue371
  t201 := Tryz.underlying374
  a201 := Tryz.isAgg374
  z201 := Tryz.sizeOf374
  v201 := Tryz.zeroValue374
  t226 := Tryz.underlying392
  a226 := Tryz.isAgg392
  z226 := Tryz.sizeOf392
  v226 := Tryz.zeroValue392
  t227 := Tryz.underlying393
  a227 := Tryz.isAgg393
  z227 := Tryz.sizeOf393
  v227 := Tryz.zeroValue393
  g6 := by kernel_rfl }
open Go.RowKit Go.Lib in
theorem Tryz.unicode_IsSpace_any (r : Int) (w : World) (hlo : -2147483648 ≤ r) (hhi : r ≤ 2147483647) (hW : Lib.WhiteTab 0 w) :
    Calls Tryz.prog 122 #[.int .i32 r] w fun e w' => e = .returned (.bool (Lib.isSpaceZ r)) ∧ Below w.heap.size w w' := Any.unicode_IsSpace_any Tryz.lays199 r w hlo hhi hW
open Go.RowKit Go.Lib in
theorem Tryz.strings_TrimRightFunc_grows (g : Nat) (lb : Array Value) (eg : ∀ args w, (callFunc g args).run Tryz.prog w = .ok (.enter g args) w) (p : Nat → Bool) (s : ByteArray) (w : World) (hs : s.size ≤ 9223372036854775807) (hT : Lib.Utf8Tabs 2 3 w) (hp : PredGrows Tryz.prog g lb p w) :
    Calls Tryz.prog 121 #[.string s, .func (.func g) #[] lb] w fun e w' => e = .returned (.string (Lib.trimRightF p s)) ∧ Below w.heap.size w w' := Any.strings_TrimRightFunc_grows Tryz.lays238 g lb eg p s w hs hT hp
end Go.Proofs
