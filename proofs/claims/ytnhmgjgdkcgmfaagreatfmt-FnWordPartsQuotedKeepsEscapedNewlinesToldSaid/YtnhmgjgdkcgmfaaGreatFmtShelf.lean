/-
  The contracts of library functions that these proofs use, laid at this program by the kit's own tool in plain words.
-/
import Derived.Shelf.Strings.Builder1
import Derived.Shelf.Strings.FuncGrows
import Derived.Shelf.Strings.Trim
import Derived.Shelf.Unicode.IsSpaceAny
import Derived.Shelf.Utf8.RuneCount
import Derived.Test.YtnhmgjgdkcgmfaaGreatFmtProg
namespace Go.Proofs
open Go.Shelf
def Tryz.lays169_ren : Go.Shelf.Ren := ⟨fun | 169 => 24 | n => n, fun | 70 => 51 | 9 => 9 | 0 => 0 | 72 => 53 | 37 => 33 | 127 => 113 | 3 => 3 | 5 => 5 | n => n, fun | n => n⟩
theorem Tryz.lays169 : Go.Proofs.Lays.n169 Tryz.prog Tryz.lays169_ren := {
  mixed := by kernel_rfl
  f169 := Tryz.func24.trans (congrArg some (by kernel_rfl))
  t0 := Tryz.underlying0
  a0 := Tryz.isAgg0
  z0 := Tryz.sizeOf0
  v0 := Tryz.zeroValue0
  t3 := Tryz.underlying3
  a3 := Tryz.isAgg3
  z3 := Tryz.sizeOf3
  v3 := Tryz.zeroValue3
  t9 := Tryz.underlying9
  a9 := Tryz.isAgg9
  z9 := Tryz.sizeOf9
  v9 := Tryz.zeroValue9
  t37 := Tryz.underlying33
  a37 := Tryz.isAgg33
  z37 := Tryz.sizeOf33
  v37 := Tryz.zeroValue33
  t70 := Tryz.underlying51
  a70 := Tryz.isAgg51
  z70 := Tryz.sizeOf51
  v70 := Tryz.zeroValue51
  t72 := Tryz.underlying53
  a72 := Tryz.isAgg53
  z72 := Tryz.sizeOf53
  v72 := Tryz.zeroValue53
  t127 := Tryz.underlying113
  a127 := Tryz.isAgg113
  z127 := Tryz.sizeOf113
  v127 := Tryz.zeroValue113 }
theorem Tryz.Builder_Extra_169 : Builder.Extra Tryz.prog Tryz.lays169_ren := {
  sizeBuilder := by kernel_rfl
  liesBuilder := by kernel_rfl
  t5 := Tryz.underlying5
  a5 := Tryz.isAgg5
  z5 := Tryz.sizeOf5
  v5 := Tryz.zeroValue5
  infoByte := by kernel_rfl
  cellsByte := by kernel_rfl
  sizeByte := by kernel_rfl
  neB5 := by decide }
open Go.RowKit in
theorem Tryz.Builder_String_any (B b : Nat) (l : List UInt8) (w : World) (h : Lib.IsBuilder 53 5 B b (Lib.byteCells l) w) (hBw : B ≤ w.heap.size) :
    Calls Tryz.prog 24 #[.pointer (some ⟨b, 0, none⟩)] w fun e w' => e = .returned (.string ⟨l.toArray⟩) ∧ Below B w w' := Any.Builder_String_any Tryz.lays169 Tryz.Builder_Extra_169 B b l w h hBw
def Tryz.lays162_ren : Go.Shelf.Ren := ⟨fun | 162 => 89 | 232 => 125 | 227 => 126 | 234 => 127 | 236 => 128 | 228 => 149 | 271 => 150 | 151 => 151 | 120 => 164 | 197 => 136 | 152 => 165 | 260 => 152 | 137 => 174 | 119 => 175 | 224 => 176 | 225 => 177 | 217 => 190 | 266 => 196 | n => n, fun | 9 => 9 | 4 => 4 | 3 => 3 | 5 => 5 | 117 => 283 | 116 => 282 | 0 => 0 | 124 => 286 | 21 => 21 | 105 => 307 | 46 => 24 | 119 => 361 | 139 => 364 | 138 => 363 | n => n, fun | 3 => 2 | 4 => 3 | n => n⟩
theorem Tryz.lays162 : Go.Proofs.Lays.n162 Tryz.prog Tryz.lays162_ren := {
  mixed := by kernel_rfl
  f119 := Tryz.func175.trans (congrArg some (by kernel_rfl))
  f120 := Tryz.func164.trans (congrArg some (by kernel_rfl))
  f137 := Tryz.func174.trans (congrArg some (by kernel_rfl))
  f151 := Tryz.func151.trans (congrArg some (by kernel_rfl))
  f152 := Tryz.func165.trans (congrArg some (by kernel_rfl))
  f162 := Tryz.func89.trans (congrArg some (by kernel_rfl))
  f197 := Tryz.func136.trans (congrArg some (by kernel_rfl))
  f217 := Tryz.func190.trans (congrArg some (by kernel_rfl))
  f224 := Tryz.func176.trans (congrArg some (by kernel_rfl))
  f225 := Tryz.func177.trans (congrArg some (by kernel_rfl))
  f227 := Tryz.func126.trans (congrArg some (by kernel_rfl))
  f228 := Tryz.func149.trans (congrArg some (by kernel_rfl))
  f232 := Tryz.func125.trans (congrArg some (by kernel_rfl))
  f234 := Tryz.func127.trans (congrArg some (by kernel_rfl))
  f236 := Tryz.func128.trans (congrArg some (by kernel_rfl))
  f260 := Tryz.func152.trans (congrArg some (by kernel_rfl))
  f266 := Tryz.func196.trans (congrArg some (by kernel_rfl))
  f271 := Tryz.func150.trans (congrArg some (by kernel_rfl))
  t0 := Tryz.underlying0
  a0 := Tryz.isAgg0
  z0 := Tryz.sizeOf0
  v0 := Tryz.zeroValue0
  t3 := Tryz.underlying3
  a3 := Tryz.isAgg3
  z3 := Tryz.sizeOf3
  v3 := Tryz.zeroValue3
  t4 := Tryz.underlying4
  a4 := Tryz.isAgg4
  z4 := Tryz.sizeOf4
  v4 := Tryz.zeroValue4
  t5 := Tryz.underlying5
  a5 := Tryz.isAgg5
  z5 := Tryz.sizeOf5
  v5 := Tryz.zeroValue5
  t9 := Tryz.underlying9
  a9 := Tryz.isAgg9
  z9 := Tryz.sizeOf9
  v9 := Tryz.zeroValue9
  t21 := Tryz.underlying21
  a21 := Tryz.isAgg21
  z21 := Tryz.sizeOf21
  v21 := Tryz.zeroValue21
  t46 := Tryz.underlying24
  a46 := Tryz.isAgg24
  z46 := Tryz.sizeOf24
  v46 := Tryz.zeroValue24
  t105 := Tryz.underlying307
  a105 := Tryz.isAgg307
  z105 := Tryz.sizeOf307
  v105 := Tryz.zeroValue307
  t116 := Tryz.underlying282
  a116 := Tryz.isAgg282
  z116 := Tryz.sizeOf282
  t117 := Tryz.underlying283
  a117 := Tryz.isAgg283
  z117 := Tryz.sizeOf283
  v117 := Tryz.zeroValue283
  t119 := Tryz.underlying361
  a119 := Tryz.isAgg361
  z119 := Tryz.sizeOf361
  t124 := Tryz.underlying286
  a124 := Tryz.isAgg286
  z124 := Tryz.sizeOf286
  v124 := Tryz.zeroValue286
  t138 := Tryz.underlying363
  a138 := Tryz.isAgg363
  z138 := Tryz.sizeOf363
  v138 := Tryz.zeroValue363
  t139 := Tryz.underlying364
  a139 := Tryz.isAgg364
  z139 := Tryz.sizeOf364
  v139 := Tryz.zeroValue364
  g3 := by kernel_rfl
  g4 := by kernel_rfl }
open Go.RowKit in
theorem Tryz.strings_TrimRight_one (s : ByteArray) (c : UInt8) (hc : c.toNat < 128) (w : World) (hs : s.size ≤ 9223372036854775807) :
    Calls Tryz.prog 89 #[.string s, .string ⟨#[c]⟩] w fun e w' => e = .returned (.string ⟨(Lib.trimRightB s.data.toList c).toArray⟩) ∧ w' = w := Any.strings_TrimRight_one Tryz.lays162 s c hc w hs
def Tryz.lays195_ren : Go.Shelf.Ren := ⟨fun | 195 => 191 | n => n, fun | 9 => 9 | 3 => 3 | 0 => 0 | 4 => 4 | n => n, fun | n => n⟩
theorem Tryz.lays195 : Go.Proofs.Lays.n195 Tryz.prog Tryz.lays195_ren := {
  mixed := by kernel_rfl
  f195 := Tryz.func191.trans (congrArg some (by kernel_rfl))
  t0 := Tryz.underlying0
  a0 := Tryz.isAgg0
  z0 := Tryz.sizeOf0
  v0 := Tryz.zeroValue0
  t3 := Tryz.underlying3
  a3 := Tryz.isAgg3
  z3 := Tryz.sizeOf3
  v3 := Tryz.zeroValue3
  t4 := Tryz.underlying4
  a4 := Tryz.isAgg4
  z4 := Tryz.sizeOf4
  v4 := Tryz.zeroValue4
  t9 := Tryz.underlying9
  a9 := Tryz.isAgg9
  z9 := Tryz.sizeOf9
  v9 := Tryz.zeroValue9 }
open Go.RowKit in
theorem Tryz.utf8_RuneCountInString (s : ByteArray) (w : World) (hs : s.size < 9223372036854775807) :
    Calls Tryz.prog 191 #[.string s] w fun e w' => e = .returned (.int .i64 (Lib.runeCount s)) ∧ ∃ pos, w' = w.iter s pos := Any.utf8_RuneCountInString Tryz.lays195 s w hs
def Tryz.lays238_ren : Go.Shelf.Ren := ⟨fun | 238 => 106 | 273 => 135 | 197 => 136 | 271 => 150 | 260 => 152 | 120 => 164 | n => n, fun | 9 => 9 | 40 => 258 | 4 => 4 | 3 => 3 | 105 => 307 | 21 => 21 | 5 => 5 | 119 => 361 | 0 => 0 | 46 => 24 | 139 => 364 | 138 => 363 | n => n, fun | 3 => 2 | 4 => 3 | n => n⟩
theorem Tryz.lays238 : Go.Proofs.Lays.n238 Tryz.prog Tryz.lays238_ren := {
  mixed := by kernel_rfl
  f120 := Tryz.func164.trans (congrArg some (by kernel_rfl))
  f197 := Tryz.func136.trans (congrArg some (by kernel_rfl))
  f238 := Tryz.func106.trans (congrArg some (by kernel_rfl))
  f260 := Tryz.func152.trans (congrArg some (by kernel_rfl))
  f271 := Tryz.func150.trans (congrArg some (by kernel_rfl))
  f273 := Tryz.func135.trans (congrArg some (by kernel_rfl))
  t0 := Tryz.underlying0
  a0 := Tryz.isAgg0
  z0 := Tryz.sizeOf0
  v0 := Tryz.zeroValue0
  t3 := Tryz.underlying3
  a3 := Tryz.isAgg3
  z3 := Tryz.sizeOf3
  v3 := Tryz.zeroValue3
  t4 := Tryz.underlying4
  a4 := Tryz.isAgg4
  z4 := Tryz.sizeOf4
  v4 := Tryz.zeroValue4
  t5 := Tryz.underlying5
  a5 := Tryz.isAgg5
  z5 := Tryz.sizeOf5
  v5 := Tryz.zeroValue5
  t9 := Tryz.underlying9
  a9 := Tryz.isAgg9
  z9 := Tryz.sizeOf9
  v9 := Tryz.zeroValue9
  t21 := Tryz.underlying21
  a21 := Tryz.isAgg21
  z21 := Tryz.sizeOf21
  v21 := Tryz.zeroValue21
  t40 := Tryz.underlying258
  a40 := Tryz.isAgg258
  z40 := Tryz.sizeOf258
  v40 := Tryz.zeroValue258
  t46 := Tryz.underlying24
  a46 := Tryz.isAgg24
  z46 := Tryz.sizeOf24
  v46 := Tryz.zeroValue24
  t105 := Tryz.underlying307
  a105 := Tryz.isAgg307
  z105 := Tryz.sizeOf307
  v105 := Tryz.zeroValue307
  t119 := Tryz.underlying361
  a119 := Tryz.isAgg361
  z119 := Tryz.sizeOf361
  t138 := Tryz.underlying363
  a138 := Tryz.isAgg363
  z138 := Tryz.sizeOf363
  v138 := Tryz.zeroValue363
  t139 := Tryz.underlying364
  a139 := Tryz.isAgg364
  z139 := Tryz.sizeOf364
  v139 := Tryz.zeroValue364
  g3 := by kernel_rfl
  g4 := by kernel_rfl }
def Tryz.lays199_ren : Go.Shelf.Ren := ⟨fun | 199 => 107 | 261 => 137 | 311 => 153 | 312 => 154 | n => n, fun | 21 => 21 | 4 => 4 | 51 => 40 | 141 => 310 | 0 => 0 | 196 => 345 | 193 => 342 | 3 => 3 | 198 => 347 | 49 => 315 | 194 => 343 | 201 => 350 | 226 => 365 | 46 => 24 | 227 => 366 | n => n, fun | 6 => 0 | n => n⟩
theorem Tryz.lays199 : Go.Proofs.Lays.n199 Tryz.prog Tryz.lays199_ren := {
  mixed := by kernel_rfl
  f199 := Tryz.func107.trans (congrArg some (by kernel_rfl))
  f261 := Tryz.func137.trans (congrArg some (by kernel_rfl))
  f311 := Tryz.func153.trans (congrArg some (by kernel_rfl))
  f312 := Tryz.func154.trans (congrArg some (by kernel_rfl))
  t0 := Tryz.underlying0
  a0 := Tryz.isAgg0
  z0 := Tryz.sizeOf0
  v0 := Tryz.zeroValue0
  t3 := Tryz.underlying3
  a3 := Tryz.isAgg3
  z3 := Tryz.sizeOf3
  v3 := Tryz.zeroValue3
  t4 := Tryz.underlying4
  a4 := Tryz.isAgg4
  z4 := Tryz.sizeOf4
  v4 := Tryz.zeroValue4
  t21 := Tryz.underlying21
  a21 := Tryz.isAgg21
  z21 := Tryz.sizeOf21
  v21 := Tryz.zeroValue21
  t46 := Tryz.underlying24
  a46 := Tryz.isAgg24
  z46 := Tryz.sizeOf24
  v46 := Tryz.zeroValue24
  t49 := Tryz.underlying315
  a49 := Tryz.isAgg315
  z49 := Tryz.sizeOf315
  v49 := Tryz.zeroValue315
  t51 := Tryz.underlying40
  a51 := Tryz.isAgg40
  z51 := Tryz.sizeOf40
  v51 := Tryz.zeroValue40
  t141 := Tryz.underlying310
  a141 := Tryz.isAgg310
  z141 := Tryz.sizeOf310
  v141 := Tryz.zeroValue310
  t193 := Tryz.underlying342
  a193 := Tryz.isAgg342
  z193 := Tryz.sizeOf342
  v193 := Tryz.zeroValue342
  t194 := Tryz.underlying343
  a194 := Tryz.isAgg343
  z194 := Tryz.sizeOf343
  v194 := Tryz.zeroValue343
  t196 := Tryz.underlying345
  a196 := Tryz.isAgg345
  z196 := Tryz.sizeOf345
  v196 := Tryz.zeroValue345
  t198 := Tryz.underlying347
  a198 := Tryz.isAgg347
  z198 := Tryz.sizeOf347
  v198 := Tryz.zeroValue347
  t201 := Tryz.underlying350
  a201 := Tryz.isAgg350
  z201 := Tryz.sizeOf350
  v201 := Tryz.zeroValue350
  t226 := Tryz.underlying365
  a226 := Tryz.isAgg365
  z226 := Tryz.sizeOf365
  v226 := Tryz.zeroValue365
  t227 := Tryz.underlying366
  a227 := Tryz.isAgg366
  z227 := Tryz.sizeOf366
  v227 := Tryz.zeroValue366
  g6 := by kernel_rfl }
open Go.RowKit Go.Lib in
theorem Tryz.unicode_IsSpace_any (r : Int) (w : World) (hlo : -2147483648 ≤ r) (hhi : r ≤ 2147483647) (hW : Lib.WhiteTab 0 w) :
    Calls Tryz.prog 107 #[.int .i32 r] w fun e w' => e = .returned (.bool (Lib.isSpaceZ r)) ∧ Below w.heap.size w w' := Any.unicode_IsSpace_any Tryz.lays199 r w hlo hhi hW
open Go.RowKit Go.Lib in
theorem Tryz.strings_TrimRightFunc_grows (g : Nat) (lb : Array Value) (eg : ∀ args w, (callFunc g args).run Tryz.prog w = .ok (.enter g args) w) (p : Nat → Bool) (s : ByteArray) (w : World) (hs : s.size ≤ 9223372036854775807) (hT : Lib.Utf8Tabs 2 3 w) (hp : PredGrows Tryz.prog g lb p w) :
    Calls Tryz.prog 106 #[.string s, .func (.func g) #[] lb] w fun e w' => e = .returned (.string (Lib.trimRightF p s)) ∧ Below w.heap.size w w' := Any.strings_TrimRightFunc_grows Tryz.lays238 g lb eg p s w hs hT hp
end Go.Proofs
