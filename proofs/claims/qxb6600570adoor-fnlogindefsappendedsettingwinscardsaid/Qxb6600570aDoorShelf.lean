import Derived.Shelf.Strings.TrimSpace
import Derived.Shelf.Small.Utf8
import Derived.Shelf.Strings.Search1
import Derived.Shelf.Strings.Search2
import Derived.Shelf.Strings.Search3
import Derived.Shelf.Strings.Runes
import Derived.Shelf.Strings.IndexAny
import Derived.Shelf.Strings.AsciiSet
import Derived.Shelf.Strings.IndexAnyAll
import Derived.Shelf.Strings.TrimSpaceAny
import Derived.Test.Qxb6600570aDoorProg
namespace Go.Proofs
open Go.Shelf
def Tryd.lays163_ren : Go.Shelf.Ren := ⟨fun | 163 => 25 | 237 => 40 | 199 => 41 | 238 => 42 | 272 => 65 | 261 => 66 | 273 => 67 | 197 => 53 | 315 => 83 | 311 => 84 | 312 => 85 | 271 => 86 | 260 => 74 | 120 => 93 | n => n, fun | 9 => 9 | 37 => 36 | 3 => 3 | 0 => 0 | 5 => 5 | 4 => 4 | 40 => 60 | 119 => 61 | 21 => 21 | 51 => 85 | 141 => 87 | 105 => 72 | 196 => 107 | 193 => 104 | 198 => 110 | 49 => 108 | 194 => 105 | 201 => 113 | 226 => 124 | 46 => 81 | 227 => 125 | 139 => 117 | 138 => 116 | n => n, fun | 0 => 0 | 6 => 1 | 3 => 6 | 4 => 7 | n => n⟩
theorem Tryd.lays163 : Go.Proofs.Lays.n163 Tryd.prog Tryd.lays163_ren := {
  mixed := by kernel_rfl
  f120 := Tryd.func93.trans (congrArg some (by kernel_rfl))
  f163 := Tryd.func25.trans (congrArg some (by kernel_rfl))
  f197 := Tryd.func53.trans (congrArg some (by kernel_rfl))
  f199 := Tryd.func41.trans (congrArg some (by kernel_rfl))
  f237 := Tryd.func40.trans (congrArg some (by kernel_rfl))
  f238 := Tryd.func42.trans (congrArg some (by kernel_rfl))
  f260 := Tryd.func74.trans (congrArg some (by kernel_rfl))
  f261 := Tryd.func66.trans (congrArg some (by kernel_rfl))
  f271 := Tryd.func86.trans (congrArg some (by kernel_rfl))
  f272 := Tryd.func65.trans (congrArg some (by kernel_rfl))
  f273 := Tryd.func67.trans (congrArg some (by kernel_rfl))
  f311 := Tryd.func84.trans (congrArg some (by kernel_rfl))
  f312 := Tryd.func85.trans (congrArg some (by kernel_rfl))
  f315 := Tryd.func83.trans (congrArg some (by kernel_rfl))
  t0 := Tryd.underlying0
  a0 := Tryd.isAgg0
  z0 := Tryd.sizeOf0
  v0 := Tryd.zeroValue0
  t3 := Tryd.underlying3
  a3 := Tryd.isAgg3
  z3 := Tryd.sizeOf3
  v3 := Tryd.zeroValue3
  t4 := Tryd.underlying4
  a4 := Tryd.isAgg4
  z4 := Tryd.sizeOf4
  v4 := Tryd.zeroValue4
  t5 := Tryd.underlying5
  a5 := Tryd.isAgg5
  z5 := Tryd.sizeOf5
  v5 := Tryd.zeroValue5
  t9 := Tryd.underlying9
  a9 := Tryd.isAgg9
  z9 := Tryd.sizeOf9
  v9 := Tryd.zeroValue9
  t21 := Tryd.underlying21
  a21 := Tryd.isAgg21
  z21 := Tryd.sizeOf21
  v21 := Tryd.zeroValue21
  t37 := Tryd.underlying36
  a37 := Tryd.isAgg36
  z37 := Tryd.sizeOf36
  v37 := Tryd.zeroValue36
  t40 := Tryd.underlying60
  a40 := Tryd.isAgg60
  z40 := Tryd.sizeOf60
  v40 := Tryd.zeroValue60
  t46 := Tryd.underlying81
  a46 := Tryd.isAgg81
  z46 := Tryd.sizeOf81
  v46 := Tryd.zeroValue81
  t49 := Tryd.underlying108
  a49 := Tryd.isAgg108
  z49 := Tryd.sizeOf108
  v49 := Tryd.zeroValue108
  t51 := Tryd.underlying85
  a51 := Tryd.isAgg85
  z51 := Tryd.sizeOf85
  v51 := Tryd.zeroValue85
  t105 := Tryd.underlying72
  a105 := Tryd.isAgg72
  z105 := Tryd.sizeOf72
  v105 := Tryd.zeroValue72
  t119 := Tryd.underlying61
  a119 := Tryd.isAgg61
  z119 := Tryd.sizeOf61
  t138 := Tryd.underlying116
  a138 := Tryd.isAgg116
  z138 := Tryd.sizeOf116
  v138 := Tryd.zeroValue116
  t139 := Tryd.underlying117
  a139 := Tryd.isAgg117
  z139 := Tryd.sizeOf117
  v139 := Tryd.zeroValue117
  t141 := Tryd.underlying87
  a141 := Tryd.isAgg87
  z141 := Tryd.sizeOf87
  v141 := Tryd.zeroValue87
  t193 := Tryd.underlying104
  a193 := Tryd.isAgg104
  z193 := Tryd.sizeOf104
  v193 := Tryd.zeroValue104
  t194 := Tryd.underlying105
  a194 := Tryd.isAgg105
  z194 := Tryd.sizeOf105
  v194 := Tryd.zeroValue105
  t196 := Tryd.underlying107
  a196 := Tryd.isAgg107
  z196 := Tryd.sizeOf107
  v196 := Tryd.zeroValue107
  t198 := Tryd.underlying110
  a198 := Tryd.isAgg110
  z198 := Tryd.sizeOf110
  v198 := Tryd.zeroValue110
  t201 := Tryd.underlying113
  a201 := Tryd.isAgg113
  z201 := Tryd.sizeOf113
  v201 := Tryd.zeroValue113
  t226 := Tryd.underlying124
  a226 := Tryd.isAgg124
  z226 := Tryd.sizeOf124
  v226 := Tryd.zeroValue124
  t227 := Tryd.underlying125
  a227 := Tryd.isAgg125
  z227 := Tryd.sizeOf125
  v227 := Tryd.zeroValue125
  g0 := by kernel_rfl
  g3 := by kernel_rfl
  g4 := by kernel_rfl
  g6 := by kernel_rfl }
theorem Tryd.Space_Extra_163 : Space.Extra Tryd.prog Tryd.lays163_ren := {
  gNamed := by kernel_rfl }
def Tryd.lays119_ren : Go.Shelf.Ren := ⟨fun | 119 => 69 | n => n, fun | 21 => 21 | 4 => 4 | n => n, fun | n => n⟩
theorem Tryd.lays119 : Go.Proofs.Lays.n119 Tryd.prog Tryd.lays119_ren := {
  mixed := by kernel_rfl
  f119 := Tryd.func69.trans (congrArg some (by kernel_rfl))
  t4 := Tryd.underlying4
  a4 := Tryd.isAgg4
  z4 := Tryd.sizeOf4
  v4 := Tryd.zeroValue4
  t21 := Tryd.underlying21
  a21 := Tryd.isAgg21
  z21 := Tryd.sizeOf21
  v21 := Tryd.zeroValue21 }
theorem Tryd.utf8_ValidRune (r : Int) (w : World) :
    Calls Tryd.prog 69 #[.int .i32 r] w fun e w' => e = .returned (.bool (Lib.validRune r)) ∧ w' = w := Any.utf8_ValidRune Tryd.lays119 r w
def Tryd.lays137_ren : Go.Shelf.Ren := ⟨fun | 137 => 68 | 217 => 87 | 266 => 94 | n => n, fun | 9 => 9 | 5 => 5 | 3 => 3 | n => n, fun | n => n⟩
theorem Tryd.lays137 : Go.Proofs.Lays.n137 Tryd.prog Tryd.lays137_ren := {
  mixed := by kernel_rfl
  f137 := Tryd.func68.trans (congrArg some (by kernel_rfl))
  f217 := Tryd.func87.trans (congrArg some (by kernel_rfl))
  f266 := Tryd.func94.trans (congrArg some (by kernel_rfl))
  t3 := Tryd.underlying3
  a3 := Tryd.isAgg3
  z3 := Tryd.sizeOf3
  v3 := Tryd.zeroValue3
  t5 := Tryd.underlying5
  a5 := Tryd.isAgg5
  z5 := Tryd.sizeOf5
  v5 := Tryd.zeroValue5
  t9 := Tryd.underlying9
  a9 := Tryd.isAgg9
  z9 := Tryd.sizeOf9
  v9 := Tryd.zeroValue9 }
open Go.RowKit in
theorem Tryd.strings_IndexByte (s : ByteArray) (c : Int) (w : World) :
    Calls Tryd.prog 68 #[.string s, .int .u8 c] w fun e w' => e = .returned (.int .i64 (Lib.indexByte s.data.toList c.toNat.toUInt8)) ∧ w' = w := Any.strings_IndexByte Tryd.lays137 s c w
def Tryd.lays143_ren : Go.Shelf.Ren := ⟨fun | 143 => 64 | 219 => 82 | 217 => 87 | 225 => 71 | 224 => 70 | 267 => 92 | 266 => 94 | 314 => 96 | n => n, fun | 9 => 9 | 3 => 3 | 4 => 4 | 5 => 5 | 46 => 81 | 146 => 131 | 51 => 85 | n => n, fun | 1 => 5 | n => n⟩
theorem Tryd.lays143 : Go.Proofs.Lays.n143 Tryd.prog Tryd.lays143_ren := {
  mixed := by kernel_rfl
  f143 := Tryd.func64.trans (congrArg some (by kernel_rfl))
  f217 := Tryd.func87.trans (congrArg some (by kernel_rfl))
  f219 := Tryd.func82.trans (congrArg some (by kernel_rfl))
  f224 := Tryd.func70.trans (congrArg some (by kernel_rfl))
  f225 := Tryd.func71.trans (congrArg some (by kernel_rfl))
  f266 := Tryd.func94.trans (congrArg some (by kernel_rfl))
  f267 := Tryd.func92.trans (congrArg some (by kernel_rfl))
  f314 := Tryd.func96.trans (congrArg some (by kernel_rfl))
  t3 := Tryd.underlying3
  a3 := Tryd.isAgg3
  z3 := Tryd.sizeOf3
  v3 := Tryd.zeroValue3
  t4 := Tryd.underlying4
  a4 := Tryd.isAgg4
  z4 := Tryd.sizeOf4
  v4 := Tryd.zeroValue4
  t5 := Tryd.underlying5
  a5 := Tryd.isAgg5
  z5 := Tryd.sizeOf5
  v5 := Tryd.zeroValue5
  t9 := Tryd.underlying9
  a9 := Tryd.isAgg9
  z9 := Tryd.sizeOf9
  v9 := Tryd.zeroValue9
  t46 := Tryd.underlying81
  a46 := Tryd.isAgg81
  z46 := Tryd.sizeOf81
  v46 := Tryd.zeroValue81
  t51 := Tryd.underlying85
  a51 := Tryd.isAgg85
  z51 := Tryd.sizeOf85
  v51 := Tryd.zeroValue85
  t146 := Tryd.underlying131
  a146 := Tryd.isAgg131
  z146 := Tryd.sizeOf131
  v146 := Tryd.zeroValue131
  g1 := by kernel_rfl }
open Go.RowKit Go.Lib in
theorem Tryd.strings_Index_one (s : ByteArray) (c : UInt8) (w : World) :
    Calls Tryd.prog 64 #[.string s, .string ⟨#[c]⟩] w fun e w' => e = .returned (.int .i64 (Lib.indexByte s.data.toList c)) ∧ w' = w := Any.strings_Index_one Tryd.lays143 s c w
def Tryd.lays152_ren : Go.Shelf.Ren := ⟨fun | 152 => 43 | 137 => 68 | 119 => 69 | 224 => 70 | 225 => 71 | 217 => 87 | 266 => 94 | n => n, fun | 9 => 9 | 21 => 21 | 3 => 3 | 4 => 4 | 5 => 5 | 0 => 0 | 46 => 81 | n => n, fun | n => n⟩
theorem Tryd.lays152 : Go.Proofs.Lays.n152 Tryd.prog Tryd.lays152_ren := {
  mixed := by kernel_rfl
  f119 := Tryd.func69.trans (congrArg some (by kernel_rfl))
  f137 := Tryd.func68.trans (congrArg some (by kernel_rfl))
  f152 := Tryd.func43.trans (congrArg some (by kernel_rfl))
  f217 := Tryd.func87.trans (congrArg some (by kernel_rfl))
  f224 := Tryd.func70.trans (congrArg some (by kernel_rfl))
  f225 := Tryd.func71.trans (congrArg some (by kernel_rfl))
  f266 := Tryd.func94.trans (congrArg some (by kernel_rfl))
  t0 := Tryd.underlying0
  a0 := Tryd.isAgg0
  z0 := Tryd.sizeOf0
  v0 := Tryd.zeroValue0
  t3 := Tryd.underlying3
  a3 := Tryd.isAgg3
  z3 := Tryd.sizeOf3
  v3 := Tryd.zeroValue3
  t4 := Tryd.underlying4
  a4 := Tryd.isAgg4
  z4 := Tryd.sizeOf4
  v4 := Tryd.zeroValue4
  t5 := Tryd.underlying5
  a5 := Tryd.isAgg5
  z5 := Tryd.sizeOf5
  v5 := Tryd.zeroValue5
  t9 := Tryd.underlying9
  a9 := Tryd.isAgg9
  z9 := Tryd.sizeOf9
  v9 := Tryd.zeroValue9
  t21 := Tryd.underlying21
  a21 := Tryd.isAgg21
  z21 := Tryd.sizeOf21
  v21 := Tryd.zeroValue21
  t46 := Tryd.underlying81
  a46 := Tryd.isAgg81
  z46 := Tryd.sizeOf81
  v46 := Tryd.zeroValue81 }
open Go.RowKit Go.Lib in
theorem Tryd.strings_IndexRune_ascii (s : ByteArray) (r : Int) (w : World) (h0 : 0 ≤ r) (h1 : r < 128) :
    Calls Tryd.prog 43 #[.string s, .int .i32 r] w fun e w' => e = .returned (.int .i64 (Lib.indexByte s.data.toList r.toNat.toUInt8)) ∧ w' = w := Any.strings_IndexRune_ascii Tryd.lays152 s r w h0 h1
def Tryd.lays153_ren : Go.Shelf.Ren := ⟨fun | 153 => 26 | 152 => 43 | 226 => 44 | 227 => 45 | 228 => 46 | 137 => 68 | 119 => 69 | 224 => 70 | 225 => 71 | 217 => 87 | 266 => 94 | n => n, fun | 9 => 9 | 3 => 3 | 4 => 4 | 5 => 5 | 21 => 21 | 117 => 66 | 116 => 65 | 0 => 0 | 46 => 81 | 124 => 91 | n => n, fun | n => n⟩
theorem Tryd.lays153 : Go.Proofs.Lays.n153 Tryd.prog Tryd.lays153_ren := {
  mixed := by kernel_rfl
  f119 := Tryd.func69.trans (congrArg some (by kernel_rfl))
  f137 := Tryd.func68.trans (congrArg some (by kernel_rfl))
  f152 := Tryd.func43.trans (congrArg some (by kernel_rfl))
  f153 := Tryd.func26.trans (congrArg some (by kernel_rfl))
  f217 := Tryd.func87.trans (congrArg some (by kernel_rfl))
  f224 := Tryd.func70.trans (congrArg some (by kernel_rfl))
  f225 := Tryd.func71.trans (congrArg some (by kernel_rfl))
  f226 := Tryd.func44.trans (congrArg some (by kernel_rfl))
  f227 := Tryd.func45.trans (congrArg some (by kernel_rfl))
  f228 := Tryd.func46.trans (congrArg some (by kernel_rfl))
  f266 := Tryd.func94.trans (congrArg some (by kernel_rfl))
  t0 := Tryd.underlying0
  a0 := Tryd.isAgg0
  z0 := Tryd.sizeOf0
  v0 := Tryd.zeroValue0
  t3 := Tryd.underlying3
  a3 := Tryd.isAgg3
  z3 := Tryd.sizeOf3
  v3 := Tryd.zeroValue3
  t4 := Tryd.underlying4
  a4 := Tryd.isAgg4
  z4 := Tryd.sizeOf4
  v4 := Tryd.zeroValue4
  t5 := Tryd.underlying5
  a5 := Tryd.isAgg5
  z5 := Tryd.sizeOf5
  v5 := Tryd.zeroValue5
  t9 := Tryd.underlying9
  a9 := Tryd.isAgg9
  z9 := Tryd.sizeOf9
  v9 := Tryd.zeroValue9
  t21 := Tryd.underlying21
  a21 := Tryd.isAgg21
  z21 := Tryd.sizeOf21
  v21 := Tryd.zeroValue21
  t46 := Tryd.underlying81
  a46 := Tryd.isAgg81
  z46 := Tryd.sizeOf81
  v46 := Tryd.zeroValue81
  t116 := Tryd.underlying65
  a116 := Tryd.isAgg65
  z116 := Tryd.sizeOf65
  t117 := Tryd.underlying66
  a117 := Tryd.isAgg66
  z117 := Tryd.sizeOf66
  v117 := Tryd.zeroValue66
  t124 := Tryd.underlying91
  a124 := Tryd.isAgg91
  z124 := Tryd.sizeOf91
  v124 := Tryd.zeroValue91 }
open Go.RowKit Go.Lib in
theorem Tryd.strings_IndexAny_long (hv116 : ∀ w, (zeroValue 65).run Tryd.prog w = .ok (.agg (Array.replicate 256 (.bool false))) w) (s chars : ByteArray) (w : World) (h2 : 2 ≤ chars.size) (h8 : 8 < s.size) (hs : s.size < 4294967281) (hcs : chars.size < 4294967281) (hascii : ∀ (j : Nat) b, chars.data.toList[j]? = some b → b.toNat < 128) :
    Calls Tryd.prog 26 #[.string s, .string chars] w fun e w' => e = .returned (.int .i64 (Lib.indexAny s.data.toList chars.data.toList)) ∧ w' = ((w.alloc (.cells (Lib.setCells chars.data.toList) 65)).alloc (.cells (Lib.setCells chars.data.toList) 65)) := Any.strings_IndexAny_long Tryd.lays153 hv116 (by kernel_rfl) s chars w h2 h8 hs hcs hascii
open Go.RowKit in
theorem Tryd.strings_TrimSpace_any (s : ByteArray) (w : World) (hs : s.size ≤ 9223372036854775807) (htab : Lib.TabIs Tryd.prog w "strings.asciiSpace" .u8 Lib.asciiSpaceTab) (hU8 : Lib.Utf8Tabs 6 7 w) (hWS : Lib.WhiteTab 1 w) :
    Calls Tryd.prog 25 #[.string s] w fun e w' => e = .returned (.string ⟨(Lib.trimSpaceD s.data.toList).toArray⟩) ∧ Below w.heap.size w w' := Any.strings_TrimSpace_any Tryd.lays163 Tryd.Space_Extra_163 s w hs htab hU8 hWS
end Go.Proofs
