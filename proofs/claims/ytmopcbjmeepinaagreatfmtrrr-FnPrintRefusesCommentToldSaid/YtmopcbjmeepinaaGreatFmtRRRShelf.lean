/-
  The contracts of library functions that these proofs use, laid at this program by the kit's own tool in plain words.
-/
import Derived.Shelf.Strings.Builder1
import Derived.Shelf.Strings.FuncGrows
import Derived.Shelf.Strings.Trim
import Derived.Shelf.Unicode.IsSpaceAny
import Derived.Shelf.Utf8.RuneCount
import Derived.Test.YtmopcbjmeepinaaGreatFmtRRRProg
namespace Go.Proofs
open Go.Shelf
def Tryz.lays169_ren : Go.Shelf.Ren := ⟨fun | 169 => 79 | n => n, fun | 70 => 151 | 9 => 9 | 0 => 0 | 72 => 153 | 37 => 31 | 127 => 284 | 3 => 3 | 5 => 5 | n => n, fun | n => n⟩
theorem Tryz.lays169 : Go.Proofs.Lays.n169 Tryz.prog Tryz.lays169_ren := {
  mixed := by kernel_rfl
  f169 := Tryz.func79.trans (congrArg some (by kernel_rfl))
  t0 := Tryz.underlying0
  a0 := Tryz.isAgg0
  z0 := Tryz.sizeOf0
  v0 := Tryz.zeroValue0
  t3 := Tryz.underlying3
  a3 := Tryz.isAgg3
  z3 := Tryz.sizeOf3
  v3 := Tryz.zeroValue3
  t9 := Tryz.underlying9
  a9 := Tryz.isAgg9
  z9 := Tryz.sizeOf9
  v9 := Tryz.zeroValue9
  t37 := Tryz.underlying31
  a37 := Tryz.isAgg31
  z37 := Tryz.sizeOf31
  v37 := Tryz.zeroValue31
  t70 := Tryz.underlying151
  a70 := Tryz.isAgg151
  z70 := Tryz.sizeOf151
  v70 := Tryz.zeroValue151
  t72 := Tryz.underlying153
  a72 := Tryz.isAgg153
  z72 := Tryz.sizeOf153
  v72 := Tryz.zeroValue153
  t127 := Tryz.underlying284
  a127 := Tryz.isAgg284
  z127 := Tryz.sizeOf284
  v127 := Tryz.zeroValue284 }
theorem Tryz.Builder_Extra_169 : Builder.Extra Tryz.prog Tryz.lays169_ren := {
  sizeBuilder := by kernel_rfl
  liesBuilder := by kernel_rfl
  t5 := Tryz.underlying5
  a5 := Tryz.isAgg5
  z5 := Tryz.sizeOf5
  v5 := Tryz.zeroValue5
  infoByte := by kernel_rfl
  cellsByte := by kernel_rfl
  sizeByte := by kernel_rfl
  neB5 := by decide }
open Go.RowKit in
theorem Tryz.Builder_String_any (B b : Nat) (l : List UInt8) (w : World) (h : Lib.IsBuilder 153 5 B b (Lib.byteCells l) w) (hBw : B ≤ w.heap.size) :
    Calls Tryz.prog 79 #[.pointer (some ⟨b, 0, none⟩)] w fun e w' => e = .returned (.string ⟨l.toArray⟩) ∧ Below B w w' := Any.Builder_String_any Tryz.lays169 Tryz.Builder_Extra_169 B b l w h hBw
def Tryz.lays162_ren : Go.Shelf.Ren := ⟨fun | 162 => 126 | 232 => 162 | 227 => 163 | 234 => 164 | 236 => 165 | 228 => 186 | 271 => 187 | 151 => 188 | 120 => 201 | 197 => 173 | 152 => 202 | 260 => 189 | 137 => 211 | 119 => 212 | 224 => 213 | 225 => 214 | 217 => 227 | 266 => 233 | n => n, fun | 9 => 9 | 4 => 4 | 3 => 3 | 5 => 5 | 117 => 305 | 116 => 304 | 0 => 0 | 124 => 308 | 21 => 21 | 105 => 325 | 46 => 22 | 119 => 379 | 139 => 382 | 138 => 381 | n => n, fun | 3 => 2 | 4 => 3 | n => n⟩
theorem Tryz.lays162 : Go.Proofs.Lays.n162 Tryz.prog Tryz.lays162_ren := {
  mixed := by kernel_rfl
  f119 := Tryz.func212.trans (congrArg some (by kernel_rfl))
  f120 := Tryz.func201.trans (congrArg some (by kernel_rfl))
  f137 := Tryz.func211.trans (congrArg some (by kernel_rfl))
  f151 := Tryz.func188.trans (congrArg some (by kernel_rfl))
  f152 := Tryz.func202.trans (congrArg some (by kernel_rfl))
  f162 := Tryz.func126.trans (congrArg some (by kernel_rfl))
  f197 := Tryz.func173.trans (congrArg some (by kernel_rfl))
  f217 := Tryz.func227.trans (congrArg some (by kernel_rfl))
  f224 := Tryz.func213.trans (congrArg some (by kernel_rfl))
  f225 := Tryz.func214.trans (congrArg some (by kernel_rfl))
  f227 := Tryz.func163.trans (congrArg some (by kernel_rfl))
  f228 := Tryz.func186.trans (congrArg some (by kernel_rfl))
  f232 := Tryz.func162.trans (congrArg some (by kernel_rfl))
  f234 := Tryz.func164.trans (congrArg some (by kernel_rfl))
  f236 := Tryz.func165.trans (congrArg some (by kernel_rfl))
  f260 := Tryz.func189.trans (congrArg some (by kernel_rfl))
  f266 := Tryz.func233.trans (congrArg some (by kernel_rfl))
  f271 := Tryz.func187.trans (congrArg some (by kernel_rfl))
  t0 := Tryz.underlying0
  a0 := Tryz.isAgg0
  z0 := Tryz.sizeOf0
  v0 := Tryz.zeroValue0
  t3 := Tryz.underlying3
  a3 := Tryz.isAgg3
  z3 := Tryz.sizeOf3
  v3 := Tryz.zeroValue3
  t4 := Tryz.underlying4
  a4 := Tryz.isAgg4
  z4 := Tryz.sizeOf4
  v4 := Tryz.zeroValue4
  t5 := Tryz.underlying5
  a5 := Tryz.isAgg5
  z5 := Tryz.sizeOf5
  v5 := Tryz.zeroValue5
  t9 := Tryz.underlying9
  a9 := Tryz.isAgg9
  z9 := Tryz.sizeOf9
  v9 := Tryz.zeroValue9
  t21 := Tryz.underlying21
  a21 := Tryz.isAgg21
  z21 := Tryz.sizeOf21
  v21 := Tryz.zeroValue21
  t46 := Tryz.underlying22
  a46 := Tryz.isAgg22
  z46 := Tryz.sizeOf22
  v46 := Tryz.zeroValue22
  t105 := Tryz.underlying325
  a105 := Tryz.isAgg325
  z105 := Tryz.sizeOf325
  v105 := Tryz.zeroValue325
  t116 := Tryz.underlying304
  a116 := Tryz.isAgg304
  z116 := Tryz.sizeOf304
  t117 := Tryz.underlying305
  a117 := Tryz.isAgg305
  z117 := Tryz.sizeOf305
  v117 := Tryz.zeroValue305
  t119 := Tryz.underlying379
  a119 := Tryz.isAgg379
  z119 := Tryz.sizeOf379
  t124 := Tryz.underlying308
  a124 := Tryz.isAgg308
  z124 := Tryz.sizeOf308
  v124 := Tryz.zeroValue308
  t138 := Tryz.underlying381
  a138 := Tryz.isAgg381
  z138 := Tryz.sizeOf381
  v138 := Tryz.zeroValue381
  t139 := Tryz.underlying382
  a139 := Tryz.isAgg382
  z139 := Tryz.sizeOf382
  v139 := Tryz.zeroValue382
  g3 := by kernel_rfl
  g4 := by kernel_rfl }
open Go.RowKit in
theorem Tryz.strings_TrimRight_one (s : ByteArray) (c : UInt8) (hc : c.toNat < 128) (w : World) (hs : s.size ≤ 9223372036854775807) :
    Calls Tryz.prog 126 #[.string s, .string ⟨#[c]⟩] w fun e w' => e = .returned (.string ⟨(Lib.trimRightB s.data.toList c).toArray⟩) ∧ w' = w := Any.strings_TrimRight_one Tryz.lays162 s c hc w hs
def Tryz.lays195_ren : Go.Shelf.Ren := ⟨fun | 195 => 228 | n => n, fun | 9 => 9 | 3 => 3 | 0 => 0 | 4 => 4 | n => n, fun | n => n⟩
theorem Tryz.lays195 : Go.Proofs.Lays.n195 Tryz.prog Tryz.lays195_ren := {
  mixed := by kernel_rfl
  f195 := Tryz.func228.trans (congrArg some (by kernel_rfl))
  t0 := Tryz.underlying0
  a0 := Tryz.isAgg0
  z0 := Tryz.sizeOf0
  v0 := Tryz.zeroValue0
  t3 := Tryz.underlying3
  a3 := Tryz.isAgg3
  z3 := Tryz.sizeOf3
  v3 := Tryz.zeroValue3
  t4 := Tryz.underlying4
  a4 := Tryz.isAgg4
  z4 := Tryz.sizeOf4
  v4 := Tryz.zeroValue4
  t9 := Tryz.underlying9
  a9 := Tryz.isAgg9
  z9 := Tryz.sizeOf9
  v9 := Tryz.zeroValue9 }
open Go.RowKit in
theorem Tryz.utf8_RuneCountInString (s : ByteArray) (w : World) (hs : s.size < 9223372036854775807) :
    Calls Tryz.prog 228 #[.string s] w fun e w' => e = .returned (.int .i64 (Lib.runeCount s)) ∧ ∃ pos, w' = w.iter s pos := Any.utf8_RuneCountInString Tryz.lays195 s w hs
def Tryz.lays238_ren : Go.Shelf.Ren := ⟨fun | 238 => 143 | 273 => 172 | 197 => 173 | 271 => 187 | 260 => 189 | 120 => 201 | n => n, fun | 9 => 9 | 40 => 283 | 4 => 4 | 3 => 3 | 105 => 325 | 21 => 21 | 5 => 5 | 119 => 379 | 0 => 0 | 46 => 22 | 139 => 382 | 138 => 381 | n => n, fun | 3 => 2 | 4 => 3 | n => n⟩
theorem Tryz.lays238 : Go.Proofs.Lays.n238 Tryz.prog Tryz.lays238_ren := {
  mixed := by kernel_rfl
  f120 := Tryz.func201.trans (congrArg some (by kernel_rfl))
  f197 := Tryz.func173.trans (congrArg some (by kernel_rfl))
  f238 := Tryz.func143.trans (congrArg some (by kernel_rfl))
  f260 := Tryz.func189.trans (congrArg some (by kernel_rfl))
  f271 := Tryz.func187.trans (congrArg some (by kernel_rfl))
  f273 := Tryz.func172.trans (congrArg some (by kernel_rfl))
  t0 := Tryz.underlying0
  a0 := Tryz.isAgg0
  z0 := Tryz.sizeOf0
  v0 := Tryz.zeroValue0
  t3 := Tryz.underlying3
  a3 := Tryz.isAgg3
  z3 := Tryz.sizeOf3
  v3 := Tryz.zeroValue3
  t4 := Tryz.underlying4
  a4 := Tryz.isAgg4
  z4 := Tryz.sizeOf4
  v4 := Tryz.zeroValue4
  t5 := Tryz.underlying5
  a5 := Tryz.isAgg5
  z5 := Tryz.sizeOf5
  v5 := Tryz.zeroValue5
  t9 := Tryz.underlying9
  a9 := Tryz.isAgg9
  z9 := Tryz.sizeOf9
  v9 := Tryz.zeroValue9
  t21 := Tryz.underlying21
  a21 := Tryz.isAgg21
  z21 := Tryz.sizeOf21
  v21 := Tryz.zeroValue21
  t40 := Tryz.underlying283
  a40 := Tryz.isAgg283
  z40 := Tryz.sizeOf283
  v40 := Tryz.zeroValue283
  t46 := Tryz.underlying22
  a46 := Tryz.isAgg22
  z46 := Tryz.sizeOf22
  v46 := Tryz.zeroValue22
  t105 := Tryz.underlying325
  a105 := Tryz.isAgg325
  z105 := Tryz.sizeOf325
  v105 := Tryz.zeroValue325
  t119 := Tryz.underlying379
  a119 := Tryz.isAgg379
  z119 := Tryz.sizeOf379
  t138 := Tryz.underlying381
  a138 := Tryz.isAgg381
  z138 := Tryz.sizeOf381
  v138 := Tryz.zeroValue381
  t139 := Tryz.underlying382
  a139 := Tryz.isAgg382
  z139 := Tryz.sizeOf382
  v139 := Tryz.zeroValue382
  g3 := by kernel_rfl
  g4 := by kernel_rfl }
def Tryz.lays199_ren : Go.Shelf.Ren := ⟨fun | 199 => 144 | 261 => 174 | 311 => 190 | 312 => 191 | n => n, fun | 21 => 21 | 4 => 4 | 51 => 38 | 141 => 328 | 0 => 0 | 196 => 363 | 193 => 360 | 3 => 3 | 198 => 365 | 49 => 333 | 194 => 361 | 201 => 368 | 226 => 383 | 46 => 22 | 227 => 384 | n => n, fun | 6 => 0 | n => n⟩
theorem Tryz.lays199 : Go.Proofs.Lays.n199 Tryz.prog Tryz.lays199_ren := {
  mixed := by kernel_rfl
  f199 := Tryz.func144.trans (congrArg some (by kernel_rfl))
  f261 := Tryz.func174.trans (congrArg some (by kernel_rfl))
  f311 := Tryz.func190.trans (congrArg some (by kernel_rfl))
  f312 := Tryz.func191.trans (congrArg some (by kernel_rfl))
  t0 := Tryz.underlying0
  a0 := Tryz.isAgg0
  z0 := Tryz.sizeOf0
  v0 := Tryz.zeroValue0
  t3 := Tryz.underlying3
  a3 := Tryz.isAgg3
  z3 := Tryz.sizeOf3
  v3 := Tryz.zeroValue3
  t4 := Tryz.underlying4
  a4 := Tryz.isAgg4
  z4 := Tryz.sizeOf4
  v4 := Tryz.zeroValue4
  t21 := Tryz.underlying21
  a21 := Tryz.isAgg21
  z21 := Tryz.sizeOf21
  v21 := Tryz.zeroValue21
  t46 := Tryz.underlying22
  a46 := Tryz.isAgg22
  z46 := Tryz.sizeOf22
  v46 := Tryz.zeroValue22
  t49 := Tryz.underlying333
  a49 := Tryz.isAgg333
  z49 := Tryz.sizeOf333
  v49 := Tryz.zeroValue333
  t51 := Tryz.underlying38
  a51 := Tryz.isAgg38
  z51 := Tryz.sizeOf38
  v51 := Tryz.zeroValue38
  t141 := Tryz.underlying328
  a141 := Tryz.isAgg328
  z141 := Tryz.sizeOf328
  v141 := Tryz.zeroValue328
  t193 := Tryz.underlying360
  a193 := Tryz.isAgg360
  z193 := Tryz.sizeOf360
  v193 := Tryz.zeroValue360
  t194 := Tryz.underlying361
  a194 := Tryz.isAgg361
  z194 := Tryz.sizeOf361
  v194 := Tryz.zeroValue361
  t196 := Tryz.underlying363
  a196 := Tryz.isAgg363
  z196 := Tryz.sizeOf363
  v196 := Tryz.zeroValue363
  t198 := Tryz.underlying365
  a198 := Tryz.isAgg365
  z198 := Tryz.sizeOf365
  v198 := Tryz.zeroValue365
  t201 := Tryz.underlying368
  a201 := Tryz.isAgg368
  z201 := Tryz.sizeOf368
  v201 := Tryz.zeroValue368
  t226 := Tryz.underlying383
  a226 := Tryz.isAgg383
  z226 := Tryz.sizeOf383
  v226 := Tryz.zeroValue383
  t227 := Tryz.underlying384
  a227 := Tryz.isAgg384
  z227 := Tryz.sizeOf384
  v227 := Tryz.zeroValue384
  g6 := by kernel_rfl }
open Go.RowKit Go.Lib in
theorem Tryz.unicode_IsSpace_any (r : Int) (w : World) (hlo : -2147483648 ≤ r) (hhi : r ≤ 2147483647) (hW : Lib.WhiteTab 0 w) :
    Calls Tryz.prog 144 #[.int .i32 r] w fun e w' => e = .returned (.bool (Lib.isSpaceZ r)) ∧ Below w.heap.size w w' := Any.unicode_IsSpace_any Tryz.lays199 r w hlo hhi hW
open Go.RowKit Go.Lib in
theorem Tryz.strings_TrimRightFunc_grows (g : Nat) (lb : Array Value) (eg : ∀ args w, (callFunc g args).run Tryz.prog w = .ok (.enter g args) w) (p : Nat → Bool) (s : ByteArray) (w : World) (hs : s.size ≤ 9223372036854775807) (hT : Lib.Utf8Tabs 2 3 w) (hp : PredGrows Tryz.prog g lb p w) :
    Calls Tryz.prog 143 #[.string s, .func (.func g) #[] lb] w fun e w' => e = .returned (.string (Lib.trimRightF p s)) ∧ Below w.heap.size w w' := Any.strings_TrimRightFunc_grows Tryz.lays238 g lb eg p s w hs hT hp
end Go.Proofs
