/-
  The contracts of library functions that these proofs use, laid at this program by the kit's own tool in plain words.
-/
import Derived.Shelf.Strings.Builder1
import Derived.Shelf.Strings.FuncGrows
import Derived.Shelf.Strings.Trim
import Derived.Shelf.Unicode.IsSpaceAny
import Derived.Shelf.Utf8.RuneCount
import Derived.Test.YtlblpdbldnnllaaGreatFmtProg
namespace Go.Proofs
open Go.Shelf
def Tryz.lays169_ren : Go.Shelf.Ren := ⟨fun | 169 => 63 | n => n, fun | 70 => 126 | 9 => 9 | 0 => 0 | 72 => 128 | 37 => 28 | 127 => 266 | 3 => 3 | 5 => 5 | n => n, fun | n => n⟩
theorem Tryz.lays169 : Go.Proofs.Lays.n169 Tryz.prog Tryz.lays169_ren := {
  mixed := by kernel_rfl
  f169 := Tryz.func63.trans (congrArg some (by kernel_rfl))
  t0 := Tryz.underlying0
  a0 := Tryz.isAgg0
  z0 := Tryz.sizeOf0
  v0 := Tryz.zeroValue0
  t3 := Tryz.underlying3
  a3 := Tryz.isAgg3
  z3 := Tryz.sizeOf3
  v3 := Tryz.zeroValue3
  t9 := Tryz.underlying9
  a9 := Tryz.isAgg9
  z9 := Tryz.sizeOf9
  v9 := Tryz.zeroValue9
  t37 := Tryz.underlying28
  a37 := Tryz.isAgg28
  z37 := Tryz.sizeOf28
  v37 := Tryz.zeroValue28
  t70 := Tryz.underlying126
  a70 := Tryz.isAgg126
  z70 := Tryz.sizeOf126
  v70 := Tryz.zeroValue126
  t72 := Tryz.underlying128
  a72 := Tryz.isAgg128
  z72 := Tryz.sizeOf128
  v72 := Tryz.zeroValue128
  t127 := Tryz.underlying266
  a127 := Tryz.isAgg266
  z127 := Tryz.sizeOf266
  v127 := Tryz.zeroValue266 }
theorem Tryz.Builder_Extra_169 : Builder.Extra Tryz.prog Tryz.lays169_ren := {
  sizeBuilder := by kernel_rfl
  liesBuilder := by kernel_rfl
  t5 := Tryz.underlying5
  a5 := Tryz.isAgg5
  z5 := Tryz.sizeOf5
  v5 := Tryz.zeroValue5
  infoByte := by kernel_rfl
  cellsByte := by kernel_rfl
  sizeByte := by kernel_rfl
  neB5 := by decide }
open Go.RowKit in
theorem Tryz.Builder_String_any (B b : Nat) (l : List UInt8) (w : World) (h : Lib.IsBuilder 128 5 B b (Lib.byteCells l) w) (hBw : B ≤ w.heap.size) :
    Calls Tryz.prog 63 #[.pointer (some ⟨b, 0, none⟩)] w fun e w' => e = .returned (.string ⟨l.toArray⟩) ∧ Below B w w' := Any.Builder_String_any Tryz.lays169 Tryz.Builder_Extra_169 B b l w h hBw
def Tryz.lays162_ren : Go.Shelf.Ren := ⟨fun | 162 => 110 | 232 => 146 | 227 => 147 | 234 => 148 | 236 => 149 | 228 => 170 | 271 => 171 | 151 => 172 | 120 => 185 | 197 => 157 | 152 => 186 | 260 => 173 | 137 => 195 | 119 => 196 | 224 => 197 | 225 => 198 | 217 => 211 | 266 => 217 | n => n, fun | 9 => 9 | 4 => 4 | 3 => 3 | 5 => 5 | 117 => 290 | 116 => 289 | 0 => 0 | 124 => 293 | 21 => 21 | 105 => 316 | 46 => 26 | 119 => 370 | 139 => 373 | 138 => 372 | n => n, fun | 3 => 2 | 4 => 3 | n => n⟩
theorem Tryz.lays162 : Go.Proofs.Lays.n162 Tryz.prog Tryz.lays162_ren := {
  mixed := by kernel_rfl
  f119 := Tryz.func196.trans (congrArg some (by kernel_rfl))
  f120 := Tryz.func185.trans (congrArg some (by kernel_rfl))
  f137 := Tryz.func195.trans (congrArg some (by kernel_rfl))
  f151 := Tryz.func172.trans (congrArg some (by kernel_rfl))
  f152 := Tryz.func186.trans (congrArg some (by kernel_rfl))
  f162 := Tryz.func110.trans (congrArg some (by kernel_rfl))
  f197 := Tryz.func157.trans (congrArg some (by kernel_rfl))
  f217 := Tryz.func211.trans (congrArg some (by kernel_rfl))
  f224 := Tryz.func197.trans (congrArg some (by kernel_rfl))
  f225 := Tryz.func198.trans (congrArg some (by kernel_rfl))
  f227 := Tryz.func147.trans (congrArg some (by kernel_rfl))
  f228 := Tryz.func170.trans (congrArg some (by kernel_rfl))
  f232 := Tryz.func146.trans (congrArg some (by kernel_rfl))
  f234 := Tryz.func148.trans (congrArg some (by kernel_rfl))
  f236 := Tryz.func149.trans (congrArg some (by kernel_rfl))
  f260 := Tryz.func173.trans (congrArg some (by kernel_rfl))
  f266 := Tryz.func217.trans (congrArg some (by kernel_rfl))
  f271 := Tryz.func171.trans (congrArg some (by kernel_rfl))
  t0 := Tryz.underlying0
  a0 := Tryz.isAgg0
  z0 := Tryz.sizeOf0
  v0 := Tryz.zeroValue0
  t3 := Tryz.underlying3
  a3 := Tryz.isAgg3
  z3 := Tryz.sizeOf3
  v3 := Tryz.zeroValue3
  t4 := Tryz.underlying4
  a4 := Tryz.isAgg4
  z4 := Tryz.sizeOf4
  v4 := Tryz.zeroValue4
  t5 := Tryz.underlying5
  a5 := Tryz.isAgg5
  z5 := Tryz.sizeOf5
  v5 := Tryz.zeroValue5
  t9 := Tryz.underlying9
  a9 := Tryz.isAgg9
  z9 := Tryz.sizeOf9
  v9 := Tryz.zeroValue9
  t21 := Tryz.underlying21
  a21 := Tryz.isAgg21
  z21 := Tryz.sizeOf21
  v21 := Tryz.zeroValue21
  t46 := Tryz.underlying26
  a46 := Tryz.isAgg26
  z46 := Tryz.sizeOf26
  v46 := Tryz.zeroValue26
  t105 := Tryz.underlying316
  a105 := Tryz.isAgg316
  z105 := Tryz.sizeOf316
  v105 := Tryz.zeroValue316
  t116 := Tryz.underlying289
  a116 := Tryz.isAgg289
  z116 := Tryz.sizeOf289
  t117 := Tryz.underlying290
  a117 := Tryz.isAgg290
  z117 := Tryz.sizeOf290
  v117 := Tryz.zeroValue290
  t119 := Tryz.underlying370
  a119 := Tryz.isAgg370
  z119 := Tryz.sizeOf370
  t124 := Tryz.underlying293
  a124 := Tryz.isAgg293
  z124 := Tryz.sizeOf293
  v124 := Tryz.zeroValue293
  t138 := Tryz.underlying372
  a138 := Tryz.isAgg372
  z138 := Tryz.sizeOf372
  v138 := Tryz.zeroValue372
  t139 := Tryz.underlying373
  a139 := Tryz.isAgg373
  z139 := Tryz.sizeOf373
  v139 := Tryz.zeroValue373
  g3 := by kernel_rfl
  g4 := by kernel_rfl }
open Go.RowKit in
theorem Tryz.strings_TrimRight_one (s : ByteArray) (c : UInt8) (hc : c.toNat < 128) (w : World) (hs : s.size ≤ 9223372036854775807) :
    Calls Tryz.prog 110 #[.string s, .string ⟨#[c]⟩] w fun e w' => e = .returned (.string ⟨(Lib.trimRightB s.data.toList c).toArray⟩) ∧ w' = w := Any.strings_TrimRight_one Tryz.lays162 s c hc w hs
def Tryz.lays195_ren : Go.Shelf.Ren := ⟨fun | 195 => 212 | n => n, fun | 9 => 9 | 3 => 3 | 0 => 0 | 4 => 4 | n => n, fun | n => n⟩
theorem Tryz.lays195 : Go.Proofs.Lays.n195 Tryz.prog Tryz.lays195_ren := {
  mixed := by kernel_rfl
  f195 := Tryz.func212.trans (congrArg some (by kernel_rfl))
  t0 := Tryz.underlying0
  a0 := Tryz.isAgg0
  z0 := Tryz.sizeOf0
  v0 := Tryz.zeroValue0
  t3 := Tryz.underlying3
  a3 := Tryz.isAgg3
  z3 := Tryz.sizeOf3
  v3 := Tryz.zeroValue3
  t4 := Tryz.underlying4
  a4 := Tryz.isAgg4
  z4 := Tryz.sizeOf4
  v4 := Tryz.zeroValue4
  t9 := Tryz.underlying9
  a9 := Tryz.isAgg9
  z9 := Tryz.sizeOf9
  v9 := Tryz.zeroValue9 }
open Go.RowKit in
theorem Tryz.utf8_RuneCountInString (s : ByteArray) (w : World) (hs : s.size < 9223372036854775807) :
    Calls Tryz.prog 212 #[.string s] w fun e w' => e = .returned (.int .i64 (Lib.runeCount s)) ∧ ∃ pos, w' = w.iter s pos := Any.utf8_RuneCountInString Tryz.lays195 s w hs
def Tryz.lays238_ren : Go.Shelf.Ren := ⟨fun | 238 => 127 | 273 => 156 | 197 => 157 | 271 => 171 | 260 => 173 | 120 => 185 | n => n, fun | 9 => 9 | 40 => 265 | 4 => 4 | 3 => 3 | 105 => 316 | 21 => 21 | 5 => 5 | 119 => 370 | 0 => 0 | 46 => 26 | 139 => 373 | 138 => 372 | n => n, fun | 3 => 2 | 4 => 3 | n => n⟩
theorem Tryz.lays238 : Go.Proofs.Lays.n238 Tryz.prog Tryz.lays238_ren := {
  mixed := by kernel_rfl
  f120 := Tryz.func185.trans (congrArg some (by kernel_rfl))
  f197 := Tryz.func157.trans (congrArg some (by kernel_rfl))
  f238 := Tryz.func127.trans (congrArg some (by kernel_rfl))
  f260 := Tryz.func173.trans (congrArg some (by kernel_rfl))
  f271 := Tryz.func171.trans (congrArg some (by kernel_rfl))
  f273 := Tryz.func156.trans (congrArg some (by kernel_rfl))
  t0 := Tryz.underlying0
  a0 := Tryz.isAgg0
  z0 := Tryz.sizeOf0
  v0 := Tryz.zeroValue0
  t3 := Tryz.underlying3
  a3 := Tryz.isAgg3
  z3 := Tryz.sizeOf3
  v3 := Tryz.zeroValue3
  t4 := Tryz.underlying4
  a4 := Tryz.isAgg4
  z4 := Tryz.sizeOf4
  v4 := Tryz.zeroValue4
  t5 := Tryz.underlying5
  a5 := Tryz.isAgg5
  z5 := Tryz.sizeOf5
  v5 := Tryz.zeroValue5
  t9 := Tryz.underlying9
  a9 := Tryz.isAgg9
  z9 := Tryz.sizeOf9
  v9 := Tryz.zeroValue9
  t21 := Tryz.underlying21
  a21 := Tryz.isAgg21
  z21 := Tryz.sizeOf21
  v21 := Tryz.zeroValue21
  t40 := Tryz.underlying265
  a40 := Tryz.isAgg265
  z40 := Tryz.sizeOf265
  v40 := Tryz.zeroValue265
  t46 := Tryz.underlying26
  a46 := Tryz.isAgg26
  z46 := Tryz.sizeOf26
  v46 := Tryz.zeroValue26
  t105 := Tryz.underlying316
  a105 := Tryz.isAgg316
  z105 := Tryz.sizeOf316
  v105 := Tryz.zeroValue316
  t119 := Tryz.underlying370
  a119 := Tryz.isAgg370
  z119 := Tryz.sizeOf370
  t138 := Tryz.underlying372
  a138 := Tryz.isAgg372
  z138 := Tryz.sizeOf372
  v138 := Tryz.zeroValue372
  t139 := Tryz.underlying373
  a139 := Tryz.isAgg373
  z139 := Tryz.sizeOf373
  v139 := Tryz.zeroValue373
  g3 := by kernel_rfl
  g4 := by kernel_rfl }
def Tryz.lays199_ren : Go.Shelf.Ren := ⟨fun | 199 => 128 | 261 => 158 | 311 => 174 | 312 => 175 | n => n, fun | 21 => 21 | 4 => 4 | 51 => 58 | 141 => 319 | 0 => 0 | 196 => 354 | 193 => 351 | 3 => 3 | 198 => 356 | 49 => 324 | 194 => 352 | 201 => 359 | 226 => 374 | 46 => 26 | 227 => 375 | n => n, fun | 6 => 0 | n => n⟩
theorem Tryz.lays199 : Go.Proofs.Lays.n199 Tryz.prog Tryz.lays199_ren := {
  mixed := by kernel_rfl
  f199 := Tryz.func128.trans (congrArg some (by kernel_rfl))
  f261 := Tryz.func158.trans (congrArg some (by kernel_rfl))
  f311 := Tryz.func174.trans (congrArg some (by kernel_rfl))
  f312 := Tryz.func175.trans (congrArg some (by kernel_rfl))
  t0 := Tryz.underlying0
  a0 := Tryz.isAgg0
  z0 := Tryz.sizeOf0
  v0 := Tryz.zeroValue0
  t3 := Tryz.underlying3
  a3 := Tryz.isAgg3
  z3 := Tryz.sizeOf3
  v3 := Tryz.zeroValue3
  t4 := Tryz.underlying4
  a4 := Tryz.isAgg4
  z4 := Tryz.sizeOf4
  v4 := Tryz.zeroValue4
  t21 := Tryz.underlying21
  a21 := Tryz.isAgg21
  z21 := Tryz.sizeOf21
  v21 := Tryz.zeroValue21
  t46 := Tryz.underlying26
  a46 := Tryz.isAgg26
  z46 := Tryz.sizeOf26
  v46 := Tryz.zeroValue26
  t49 := Tryz.underlying324
  a49 := Tryz.isAgg324
  z49 := Tryz.sizeOf324
  v49 := Tryz.zeroValue324
  t51 := Tryz.underlying58
  a51 := Tryz.isAgg58
  z51 := Tryz.sizeOf58
  v51 := Tryz.zeroValue58
  t141 := Tryz.underlying319
  a141 := Tryz.isAgg319
  z141 := Tryz.sizeOf319
  v141 := Tryz.zeroValue319
  t193 := Tryz.underlying351
  a193 := Tryz.isAgg351
  z193 := Tryz.sizeOf351
  v193 := Tryz.zeroValue351
  t194 := Tryz.underlying352
  a194 := Tryz.isAgg352
  z194 := Tryz.sizeOf352
  v194 := Tryz.zeroValue352
  t196 := Tryz.underlying354
  a196 := Tryz.isAgg354
  z196 := Tryz.sizeOf354
  v196 := Tryz.zeroValue354
  t198 := Tryz.underlying356
  a198 := Tryz.isAgg356
  z198 := Tryz.sizeOf356
  v198 := Tryz.zeroValue356
  t201 := Tryz.underlying359
  a201 := Tryz.isAgg359
  z201 := Tryz.sizeOf359
  v201 := Tryz.zeroValue359
  t226 := Tryz.underlying374
  a226 := Tryz.isAgg374
  z226 := Tryz.sizeOf374
  v226 := Tryz.zeroValue374
  t227 := Tryz.underlying375
  a227 := Tryz.isAgg375
  z227 := Tryz.sizeOf375
  v227 := Tryz.zeroValue375
  g6 := by kernel_rfl }
open Go.RowKit Go.Lib in
theorem Tryz.unicode_IsSpace_any (r : Int) (w : World) (hlo : -2147483648 ≤ r) (hhi : r ≤ 2147483647) (hW : Lib.WhiteTab 0 w) :
    Calls Tryz.prog 128 #[.int .i32 r] w fun e w' => e = .returned (.bool (Lib.isSpaceZ r)) ∧ Below w.heap.size w w' := Any.unicode_IsSpace_any Tryz.lays199 r w hlo hhi hW
open Go.RowKit Go.Lib in
theorem Tryz.strings_TrimRightFunc_grows (g : Nat) (lb : Array Value) (eg : ∀ args w, (callFunc g args).run Tryz.prog w = .ok (.enter g args) w) (p : Nat → Bool) (s : ByteArray) (w : World) (hs : s.size ≤ 9223372036854775807) (hT : Lib.Utf8Tabs 2 3 w) (hp : PredGrows Tryz.prog g lb p w) :
    Calls Tryz.prog 127 #[.string s, .func (.func g) #[] lb] w fun e w' => e = .returned (.string (Lib.trimRightF p s)) ∧ Below w.heap.size w w' := Any.strings_TrimRightFunc_grows Tryz.lays238 g lb eg p s w hs hT hp
end Go.Proofs
