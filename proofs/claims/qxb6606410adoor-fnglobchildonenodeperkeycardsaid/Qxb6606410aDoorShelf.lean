/-
  The shelf's contracts at this dump, written by the shelf's own tools, remarks struck.
-/
import Derived.Shelf.Strings.Search1
import Derived.Shelf.Strings.Search2
import Derived.Shelf.Strings.Search3
import Derived.Shelf.Strings.Count
import Derived.Shelf.LaysM
import Derived.Shelf.Strings.Shaped
import Derived.Shelf.Strings.Split
import Derived.Shelf.Strings.SplitShaped
import Derived.Shelf.Unicode.DecodeSlow
import Derived.Shelf.Bytes.IndexByte
import Derived.Test.Qxb6606410aDoorProg
namespace Go.Proofs
open Go.Shelf
def Tryd.lays217_ren : Go.Shelf.Ren := ⟨fun | 217 => 36 | 266 => 41 | n => n, fun | 9 => 9 | 5 => 5 | 3 => 3 | n => n, fun | n => n⟩
theorem Tryd.lays217 : Go.Proofs.Lays.n217 Tryd.prog Tryd.lays217_ren := {
  mixed := by kernel_rfl
  f217 := Tryd.func36.trans (congrArg some (by kernel_rfl))
  f266 := Tryd.func41.trans (congrArg some (by kernel_rfl))
  t3 := Tryd.underlying3
  a3 := Tryd.isAgg3
  z3 := Tryd.sizeOf3
  v3 := Tryd.zeroValue3
  t5 := Tryd.underlying5
  a5 := Tryd.isAgg5
  z5 := Tryd.sizeOf5
  v5 := Tryd.zeroValue5
  t9 := Tryd.underlying9
  a9 := Tryd.isAgg9
  z9 := Tryd.sizeOf9
  v9 := Tryd.zeroValue9 }
open Go.RowKit Go.Lib in
theorem Tryd.stringslite_IndexByte (s : ByteArray) (c : Int) (w : World) :
    Calls Tryd.prog 36 #[.string s, .int .u8 c] w fun e w' => e = .returned (.int .i64 (Lib.indexByte s.data.toList c.toNat.toUInt8)) ∧ w' = w := Any.stringslite_IndexByte Tryd.lays217 s c w
def Tryd.lays224_ren : Go.Shelf.Ren := ⟨fun | 224 => 38 | n => n, fun | 3 => 3 | n => n, fun | n => n⟩
theorem Tryd.lays224 : Go.Proofs.Lays.n224 Tryd.prog Tryd.lays224_ren := {
  mixed := by kernel_rfl
  f224 := Tryd.func38.trans (congrArg some (by kernel_rfl))
  t3 := Tryd.underlying3
  a3 := Tryd.isAgg3
  z3 := Tryd.sizeOf3
  v3 := Tryd.zeroValue3 }
open Go.RowKit Go.Lib in
theorem Tryd.bytealg_Cutover (n : Int) (h0 : 0 ≤ n) (h1 : n < 4611686018427387904) (w : World) :
    Calls Tryd.prog 38 #[.int .i64 n] w fun e w' => e = .returned (.int .i64 ((n + 16) / 8)) ∧ w' = w := Any.bytealg_Cutover Tryd.lays224 n h0 h1 w
def Tryd.lays314_ren : Go.Shelf.Ren := ⟨fun | 314 => 42 | n => n, fun | 9 => 9 | 51 => 81 | 3 => 3 | 4 => 4 | 5 => 5 | 46 => 76 | n => n, fun | n => n⟩
theorem Tryd.lays314 : Go.Proofs.Lays.n314 Tryd.prog Tryd.lays314_ren := {
  mixed := by kernel_rfl
  f314 := Tryd.func42.trans (congrArg some (by kernel_rfl))
  t3 := Tryd.underlying3
  a3 := Tryd.isAgg3
  z3 := Tryd.sizeOf3
  v3 := Tryd.zeroValue3
  t4 := Tryd.underlying4
  a4 := Tryd.isAgg4
  z4 := Tryd.sizeOf4
  v4 := Tryd.zeroValue4
  t5 := Tryd.underlying5
  a5 := Tryd.isAgg5
  z5 := Tryd.sizeOf5
  v5 := Tryd.zeroValue5
  t9 := Tryd.underlying9
  a9 := Tryd.isAgg9
  z9 := Tryd.sizeOf9
  v9 := Tryd.zeroValue9
  t46 := Tryd.underlying76
  a46 := Tryd.isAgg76
  z46 := Tryd.sizeOf76
  v46 := Tryd.zeroValue76
  t51 := Tryd.underlying81
  a51 := Tryd.isAgg81
  z51 := Tryd.sizeOf81
  v51 := Tryd.zeroValue81 }
open Go.RowKit Go.Lib in
theorem Tryd.bytealg_hashStr (sep : ByteArray) (hs : sep.size < 4294967281) (w : World) :
    Calls Tryd.prog 42 #[.string sep] w fun e w' => e = .returned (.tuple #[.int .u32 (RK.H sep.data.toList % 4294967296), .int .u32 (16777619 ^ sep.size % 4294967296)]) ∧ w' = w := Any.bytealg_hashStr Tryd.lays314 sep hs w
def Tryd.lays267_ren : Go.Shelf.Ren := ⟨fun | 267 => 39 | 314 => 42 | n => n, fun | 9 => 9 | 3 => 3 | 146 => 82 | 51 => 81 | 4 => 4 | 5 => 5 | 46 => 76 | n => n, fun | n => n⟩
theorem Tryd.lays267 : Go.Proofs.Lays.n267 Tryd.prog Tryd.lays267_ren := {
  mixed := by kernel_rfl
  f267 := Tryd.func39.trans (congrArg some (by kernel_rfl))
  f314 := Tryd.func42.trans (congrArg some (by kernel_rfl))
  t3 := Tryd.underlying3
  a3 := Tryd.isAgg3
  z3 := Tryd.sizeOf3
  v3 := Tryd.zeroValue3
  t4 := Tryd.underlying4
  a4 := Tryd.isAgg4
  z4 := Tryd.sizeOf4
  v4 := Tryd.zeroValue4
  t5 := Tryd.underlying5
  a5 := Tryd.isAgg5
  z5 := Tryd.sizeOf5
  v5 := Tryd.zeroValue5
  t9 := Tryd.underlying9
  a9 := Tryd.isAgg9
  z9 := Tryd.sizeOf9
  v9 := Tryd.zeroValue9
  t46 := Tryd.underlying76
  a46 := Tryd.isAgg76
  z46 := Tryd.sizeOf76
  v46 := Tryd.zeroValue76
  t51 := Tryd.underlying81
  a51 := Tryd.isAgg81
  z51 := Tryd.sizeOf81
  v51 := Tryd.zeroValue81
  t146 := Tryd.underlying82
  a146 := Tryd.isAgg82
  z146 := Tryd.sizeOf82
  v146 := Tryd.zeroValue82 }
open Go.RowKit Go.Lib in
theorem Tryd.bytealg_IndexRabinKarp (s sep : ByteArray) (h1 : 1 ≤ sep.size) (h2 : sep.size ≤ s.size) (hs : s.size < 4294967281) (w : World) :
    Calls Tryd.prog 39 #[.string s, .string sep] w fun e w' => e = .returned (.int .i64 (Lib.index s.data.toList sep.data.toList)) ∧ w' = w := Any.bytealg_IndexRabinKarp Tryd.lays267 s sep h1 h2 hs w
def Tryd.lays219_ren : Go.Shelf.Ren := ⟨fun | 219 => 33 | 217 => 36 | 225 => 37 | 224 => 38 | 267 => 39 | 266 => 41 | 314 => 42 | n => n, fun | 9 => 9 | 3 => 3 | 4 => 4 | 5 => 5 | 46 => 76 | 146 => 82 | 51 => 81 | n => n, fun | 1 => 0 | n => n⟩
theorem Tryd.lays219 : Go.Proofs.Lays.n219 Tryd.prog Tryd.lays219_ren := {
  mixed := by kernel_rfl
  f217 := Tryd.func36.trans (congrArg some (by kernel_rfl))
  f219 := Tryd.func33.trans (congrArg some (by kernel_rfl))
  f224 := Tryd.func38.trans (congrArg some (by kernel_rfl))
  f225 := Tryd.func37.trans (congrArg some (by kernel_rfl))
  f266 := Tryd.func41.trans (congrArg some (by kernel_rfl))
  f267 := Tryd.func39.trans (congrArg some (by kernel_rfl))
  f314 := Tryd.func42.trans (congrArg some (by kernel_rfl))
  t3 := Tryd.underlying3
  a3 := Tryd.isAgg3
  z3 := Tryd.sizeOf3
  v3 := Tryd.zeroValue3
  t4 := Tryd.underlying4
  a4 := Tryd.isAgg4
  z4 := Tryd.sizeOf4
  v4 := Tryd.zeroValue4
  t5 := Tryd.underlying5
  a5 := Tryd.isAgg5
  z5 := Tryd.sizeOf5
  v5 := Tryd.zeroValue5
  t9 := Tryd.underlying9
  a9 := Tryd.isAgg9
  z9 := Tryd.sizeOf9
  v9 := Tryd.zeroValue9
  t46 := Tryd.underlying76
  a46 := Tryd.isAgg76
  z46 := Tryd.sizeOf76
  v46 := Tryd.zeroValue76
  t51 := Tryd.underlying81
  a51 := Tryd.isAgg81
  z51 := Tryd.sizeOf81
  v51 := Tryd.zeroValue81
  t146 := Tryd.underlying82
  a146 := Tryd.isAgg82
  z146 := Tryd.sizeOf82
  v146 := Tryd.zeroValue82
  g1 := by kernel_rfl }
open Go.RowKit Go.Lib in
theorem Tryd.stringslite_Index_one (s : ByteArray) (c : UInt8) (w : World) :
    Calls Tryd.prog 33 #[.string s, .string ⟨#[c]⟩] w fun e w' => e = .returned (.int .i64 (Lib.indexByte s.data.toList c)) ∧ w' = w := Any.stringslite_Index_one Tryd.lays219 s c w
open Go.RowKit Go.Lib in
theorem Tryd.stringslite_Index (s sub : ByteArray) (m : Int) (w : World) (hs : s.size < 4294967281) (hm : w.cell? ⟨0, 0, none⟩ = some (.int .i64 m)) :
    Calls Tryd.prog 33 #[.string s, .string sub] w fun e w' => e = .returned (.int .i64 (Lib.index s.data.toList sub.data.toList)) ∧ w' = w := Any.stringslite_Index Tryd.lays219 s sub m w hs hm
def Tryd.lays143_ren : Go.Shelf.Ren := ⟨fun | 143 => 25 | 219 => 33 | 217 => 36 | 225 => 37 | 224 => 38 | 267 => 39 | 266 => 41 | 314 => 42 | n => n, fun | 9 => 9 | 3 => 3 | 4 => 4 | 5 => 5 | 46 => 76 | 146 => 82 | 51 => 81 | n => n, fun | 1 => 0 | n => n⟩
theorem Tryd.lays143 : Go.Proofs.Lays.n143 Tryd.prog Tryd.lays143_ren := {
  mixed := by kernel_rfl
  f143 := Tryd.func25.trans (congrArg some (by kernel_rfl))
  f217 := Tryd.func36.trans (congrArg some (by kernel_rfl))
  f219 := Tryd.func33.trans (congrArg some (by kernel_rfl))
  f224 := Tryd.func38.trans (congrArg some (by kernel_rfl))
  f225 := Tryd.func37.trans (congrArg some (by kernel_rfl))
  f266 := Tryd.func41.trans (congrArg some (by kernel_rfl))
  f267 := Tryd.func39.trans (congrArg some (by kernel_rfl))
  f314 := Tryd.func42.trans (congrArg some (by kernel_rfl))
  t3 := Tryd.underlying3
  a3 := Tryd.isAgg3
  z3 := Tryd.sizeOf3
  v3 := Tryd.zeroValue3
  t4 := Tryd.underlying4
  a4 := Tryd.isAgg4
  z4 := Tryd.sizeOf4
  v4 := Tryd.zeroValue4
  t5 := Tryd.underlying5
  a5 := Tryd.isAgg5
  z5 := Tryd.sizeOf5
  v5 := Tryd.zeroValue5
  t9 := Tryd.underlying9
  a9 := Tryd.isAgg9
  z9 := Tryd.sizeOf9
  v9 := Tryd.zeroValue9
  t46 := Tryd.underlying76
  a46 := Tryd.isAgg76
  z46 := Tryd.sizeOf76
  v46 := Tryd.zeroValue76
  t51 := Tryd.underlying81
  a51 := Tryd.isAgg81
  z51 := Tryd.sizeOf81
  v51 := Tryd.zeroValue81
  t146 := Tryd.underlying82
  a146 := Tryd.isAgg82
  z146 := Tryd.sizeOf82
  v146 := Tryd.zeroValue82
  g1 := by kernel_rfl }
open Go.RowKit Go.Lib in
theorem Tryd.strings_Index_one (s : ByteArray) (c : UInt8) (w : World) :
    Calls Tryd.prog 25 #[.string s, .string ⟨#[c]⟩] w fun e w' => e = .returned (.int .i64 (Lib.indexByte s.data.toList c)) ∧ w' = w := Any.strings_Index_one Tryd.lays143 s c w
open Go.RowKit Go.Lib in
theorem Tryd.strings_Index (s sub : ByteArray) (m : Int) (w : World) (hs : s.size < 4294967281) (hm : w.cell? ⟨0, 0, none⟩ = some (.int .i64 m)) :
    Calls Tryd.prog 25 #[.string s, .string sub] w fun e w' => e = .returned (.int .i64 (Lib.index s.data.toList sub.data.toList)) ∧ w' = w := Any.strings_Index Tryd.lays143 s sub m w hs hm
def Tryd.lays138_ren : Go.Shelf.Ren := ⟨fun | 138 => 24 | 195 => 30 | 218 => 32 | 143 => 25 | 219 => 33 | 217 => 36 | 225 => 37 | 224 => 38 | 267 => 39 | 266 => 41 | 314 => 42 | n => n, fun | 9 => 9 | 3 => 3 | 4 => 4 | 5 => 5 | 0 => 0 | 46 => 76 | 146 => 82 | 51 => 81 | n => n, fun | 1 => 0 | n => n⟩
theorem Tryd.lays138 : Go.Proofs.Lays.n138 Tryd.prog Tryd.lays138_ren := {
  mixed := by kernel_rfl
  f138 := Tryd.func24.trans (congrArg some (by kernel_rfl))
  f143 := Tryd.func25.trans (congrArg some (by kernel_rfl))
  f195 := Tryd.func30.trans (congrArg some (by kernel_rfl))
  f217 := Tryd.func36.trans (congrArg some (by kernel_rfl))
  f218 := Tryd.func32.trans (congrArg some (by kernel_rfl))
  f219 := Tryd.func33.trans (congrArg some (by kernel_rfl))
  f224 := Tryd.func38.trans (congrArg some (by kernel_rfl))
  f225 := Tryd.func37.trans (congrArg some (by kernel_rfl))
  f266 := Tryd.func41.trans (congrArg some (by kernel_rfl))
  f267 := Tryd.func39.trans (congrArg some (by kernel_rfl))
  f314 := Tryd.func42.trans (congrArg some (by kernel_rfl))
  t0 := Tryd.underlying0
  a0 := Tryd.isAgg0
  z0 := Tryd.sizeOf0
  v0 := Tryd.zeroValue0
  t3 := Tryd.underlying3
  a3 := Tryd.isAgg3
  z3 := Tryd.sizeOf3
  v3 := Tryd.zeroValue3
  t4 := Tryd.underlying4
  a4 := Tryd.isAgg4
  z4 := Tryd.sizeOf4
  v4 := Tryd.zeroValue4
  t5 := Tryd.underlying5
  a5 := Tryd.isAgg5
  z5 := Tryd.sizeOf5
  v5 := Tryd.zeroValue5
  t9 := Tryd.underlying9
  a9 := Tryd.isAgg9
  z9 := Tryd.sizeOf9
  v9 := Tryd.zeroValue9
  t46 := Tryd.underlying76
  a46 := Tryd.isAgg76
  z46 := Tryd.sizeOf76
  v46 := Tryd.zeroValue76
  t51 := Tryd.underlying81
  a51 := Tryd.isAgg81
  z51 := Tryd.sizeOf81
  v51 := Tryd.zeroValue81
  t146 := Tryd.underlying82
  a146 := Tryd.isAgg82
  z146 := Tryd.sizeOf82
  v146 := Tryd.zeroValue82
  g1 := by kernel_rfl }
open Go.RowKit Go.Lib in
theorem Tryd.strings_Count_one (s : ByteArray) (c : UInt8) (w : World) :
    Calls Tryd.prog 24 #[.string s, .string ⟨#[c]⟩] w fun e w' => e = .returned (.int .i64 (Lib.countByte s.data.toList c)) ∧ w' = w := Any.strings_Count_one Tryd.lays138 s c w
open Go.RowKit Go.Lib in
theorem Tryd.strings_Count (s sub : ByteArray) (m : Int) (w : World) (hs : s.size < 4294967281) (hm : w.cell? ⟨0, 0, none⟩ = some (.int .i64 m)) (h2 : 2 ≤ sub.size) :
    Calls Tryd.prog 24 #[.string s, .string sub] w fun e w' => e = .returned (.int .i64 (Lib.countB s sub)) ∧ w' = w := Any.strings_Count Tryd.lays138 s sub m w hs hm h2
def Tryd.laysM219_ren : Go.Shelf.Ren := ⟨fun | 219 => 33 | 217 => 36 | 225 => 37 | 224 => 38 | 267 => 39 | 266 => 41 | 314 => 42 | n => n, fun | 9 => 9 | 3 => 3 | 4 => 4 | 5 => 5 | 46 => 76 | 146 => 82 | 51 => 81 | n => n, fun | 1 => 0 | n => n⟩
theorem Tryd.laysM219 : Go.Proofs.LaysM.n219 Tryd.prog Tryd.laysM219_ren := {
  mixed := by kernel_rfl
  f217 := Tryd.func36.trans (congrArg some (by kernel_rfl))
  f219 := Tryd.func33.trans (congrArg some (by kernel_rfl))
  f224 := Tryd.func38.trans (congrArg some (by kernel_rfl))
  f225 := Tryd.func37.trans (congrArg some (by kernel_rfl))
  f266 := Tryd.func41.trans (congrArg some (by kernel_rfl))
  f267 := Tryd.func39.trans (congrArg some (by kernel_rfl))
  f314 := Tryd.func42.trans (congrArg some (by kernel_rfl))
  t3 := Tryd.underlying3
  a3 := Tryd.isAgg3
  z3 := Tryd.sizeOf3
  v3 := Tryd.zeroValue3
  t4 := Tryd.underlying4
  a4 := Tryd.isAgg4
  z4 := Tryd.sizeOf4
  v4 := Tryd.zeroValue4
  t5 := Tryd.underlying5
  a5 := Tryd.isAgg5
  z5 := Tryd.sizeOf5
  v5 := Tryd.zeroValue5
  t9 := Tryd.underlying9
  a9 := Tryd.isAgg9
  z9 := Tryd.sizeOf9
  v9 := Tryd.zeroValue9
  t46 := Tryd.underlying76
  a46 := Tryd.isAgg76
  z46 := Tryd.sizeOf76
  v46 := Tryd.zeroValue76
  t51 := Tryd.underlying81
  a51 := Tryd.isAgg81
  z51 := Tryd.sizeOf81
  v51 := Tryd.zeroValue81
  t146 := Tryd.underlying82
  a146 := Tryd.isAgg82
  z146 := Tryd.sizeOf82
  v146 := Tryd.zeroValue82
  g1 := by kernel_rfl
  i3 := by kernel_rfl
  i4 := by kernel_rfl
  i5 := by kernel_rfl
  i9 := by kernel_rfl
  i46 := by kernel_rfl
  i51 := by kernel_rfl
  i146 := by kernel_rfl
  m1 := by kernel_rfl
  s1_3 := fun w h => Go.Proofs.cell_of_shapedOpen_int (zero := #[.int .i64 0]) (t := 3) h (of_decide_eq_true (by kernel_rfl)) (by kernel_rfl) rfl (by kernel_rfl) (by kernel_rfl) Tryd.underlying3 }
open Go.RowKit Go.Lib in
theorem Tryd.stringslite_Index_shaped (s sub : ByteArray) (w : World) (h : w.ShapedOpen Tryd.prog) (hs : s.size < 4294967281) :
    Calls Tryd.prog 33 #[.string s, .string sub] w fun e w' => e = .returned (.int .i64 (Lib.index s.data.toList sub.data.toList)) ∧ w' = w := Any.stringslite_Index_shaped Tryd.laysM219 s sub w h hs
def Tryd.laysM143_ren : Go.Shelf.Ren := ⟨fun | 143 => 25 | 219 => 33 | 217 => 36 | 225 => 37 | 224 => 38 | 267 => 39 | 266 => 41 | 314 => 42 | n => n, fun | 9 => 9 | 3 => 3 | 4 => 4 | 5 => 5 | 46 => 76 | 146 => 82 | 51 => 81 | n => n, fun | 1 => 0 | n => n⟩
theorem Tryd.laysM143 : Go.Proofs.LaysM.n143 Tryd.prog Tryd.laysM143_ren := {
  mixed := by kernel_rfl
  f143 := Tryd.func25.trans (congrArg some (by kernel_rfl))
  f217 := Tryd.func36.trans (congrArg some (by kernel_rfl))
  f219 := Tryd.func33.trans (congrArg some (by kernel_rfl))
  f224 := Tryd.func38.trans (congrArg some (by kernel_rfl))
  f225 := Tryd.func37.trans (congrArg some (by kernel_rfl))
  f266 := Tryd.func41.trans (congrArg some (by kernel_rfl))
  f267 := Tryd.func39.trans (congrArg some (by kernel_rfl))
  f314 := Tryd.func42.trans (congrArg some (by kernel_rfl))
  t3 := Tryd.underlying3
  a3 := Tryd.isAgg3
  z3 := Tryd.sizeOf3
  v3 := Tryd.zeroValue3
  t4 := Tryd.underlying4
  a4 := Tryd.isAgg4
  z4 := Tryd.sizeOf4
  v4 := Tryd.zeroValue4
  t5 := Tryd.underlying5
  a5 := Tryd.isAgg5
  z5 := Tryd.sizeOf5
  v5 := Tryd.zeroValue5
  t9 := Tryd.underlying9
  a9 := Tryd.isAgg9
  z9 := Tryd.sizeOf9
  v9 := Tryd.zeroValue9
  t46 := Tryd.underlying76
  a46 := Tryd.isAgg76
  z46 := Tryd.sizeOf76
  v46 := Tryd.zeroValue76
  t51 := Tryd.underlying81
  a51 := Tryd.isAgg81
  z51 := Tryd.sizeOf81
  v51 := Tryd.zeroValue81
  t146 := Tryd.underlying82
  a146 := Tryd.isAgg82
  z146 := Tryd.sizeOf82
  v146 := Tryd.zeroValue82
  g1 := by kernel_rfl
  i3 := by kernel_rfl
  i4 := by kernel_rfl
  i5 := by kernel_rfl
  i9 := by kernel_rfl
  i46 := by kernel_rfl
  i51 := by kernel_rfl
  i146 := by kernel_rfl
  m1 := by kernel_rfl
  s1_3 := fun w h => Go.Proofs.cell_of_shapedOpen_int (zero := #[.int .i64 0]) (t := 3) h (of_decide_eq_true (by kernel_rfl)) (by kernel_rfl) rfl (by kernel_rfl) (by kernel_rfl) Tryd.underlying3 }
open Go.RowKit Go.Lib in
theorem Tryd.strings_Index_shaped (s sub : ByteArray) (w : World) (h : w.ShapedOpen Tryd.prog) (hs : s.size < 4294967281) :
    Calls Tryd.prog 25 #[.string s, .string sub] w fun e w' => e = .returned (.int .i64 (Lib.index s.data.toList sub.data.toList)) ∧ w' = w := Any.strings_Index_shaped Tryd.laysM143 s sub w h hs
def Tryd.laysM138_ren : Go.Shelf.Ren := ⟨fun | 138 => 24 | 195 => 30 | 218 => 32 | 143 => 25 | 219 => 33 | 217 => 36 | 225 => 37 | 224 => 38 | 267 => 39 | 266 => 41 | 314 => 42 | n => n, fun | 9 => 9 | 3 => 3 | 4 => 4 | 5 => 5 | 0 => 0 | 46 => 76 | 146 => 82 | 51 => 81 | n => n, fun | 1 => 0 | n => n⟩
theorem Tryd.laysM138 : Go.Proofs.LaysM.n138 Tryd.prog Tryd.laysM138_ren := {
  mixed := by kernel_rfl
  f138 := Tryd.func24.trans (congrArg some (by kernel_rfl))
  f143 := Tryd.func25.trans (congrArg some (by kernel_rfl))
  f195 := Tryd.func30.trans (congrArg some (by kernel_rfl))
  f217 := Tryd.func36.trans (congrArg some (by kernel_rfl))
  f218 := Tryd.func32.trans (congrArg some (by kernel_rfl))
  f219 := Tryd.func33.trans (congrArg some (by kernel_rfl))
  f224 := Tryd.func38.trans (congrArg some (by kernel_rfl))
  f225 := Tryd.func37.trans (congrArg some (by kernel_rfl))
  f266 := Tryd.func41.trans (congrArg some (by kernel_rfl))
  f267 := Tryd.func39.trans (congrArg some (by kernel_rfl))
  f314 := Tryd.func42.trans (congrArg some (by kernel_rfl))
  t0 := Tryd.underlying0
  a0 := Tryd.isAgg0
  z0 := Tryd.sizeOf0
  v0 := Tryd.zeroValue0
  t3 := Tryd.underlying3
  a3 := Tryd.isAgg3
  z3 := Tryd.sizeOf3
  v3 := Tryd.zeroValue3
  t4 := Tryd.underlying4
  a4 := Tryd.isAgg4
  z4 := Tryd.sizeOf4
  v4 := Tryd.zeroValue4
  t5 := Tryd.underlying5
  a5 := Tryd.isAgg5
  z5 := Tryd.sizeOf5
  v5 := Tryd.zeroValue5
  t9 := Tryd.underlying9
  a9 := Tryd.isAgg9
  z9 := Tryd.sizeOf9
  v9 := Tryd.zeroValue9
  t46 := Tryd.underlying76
  a46 := Tryd.isAgg76
  z46 := Tryd.sizeOf76
  v46 := Tryd.zeroValue76
  t51 := Tryd.underlying81
  a51 := Tryd.isAgg81
  z51 := Tryd.sizeOf81
  v51 := Tryd.zeroValue81
  t146 := Tryd.underlying82
  a146 := Tryd.isAgg82
  z146 := Tryd.sizeOf82
  v146 := Tryd.zeroValue82
  g1 := by kernel_rfl
  i0 := by kernel_rfl
  i3 := by kernel_rfl
  i4 := by kernel_rfl
  i5 := by kernel_rfl
  i9 := by kernel_rfl
  i46 := by kernel_rfl
  i51 := by kernel_rfl
  i146 := by kernel_rfl
  m1 := by kernel_rfl
  s1_3 := fun w h => Go.Proofs.cell_of_shapedOpen_int (zero := #[.int .i64 0]) (t := 3) h (of_decide_eq_true (by kernel_rfl)) (by kernel_rfl) rfl (by kernel_rfl) (by kernel_rfl) Tryd.underlying3 }
open Go.RowKit Go.Lib in
theorem Tryd.strings_Count_shaped (s sub : ByteArray) (w : World) (h : w.ShapedOpen Tryd.prog) (hs : s.size < 4294967281) (h2 : 2 ≤ sub.size) :
    Calls Tryd.prog 24 #[.string s, .string sub] w fun e w' => e = .returned (.int .i64 (Lib.countB s sub)) ∧ w' = w := Any.strings_Count_shaped Tryd.laysM138 s sub w h hs h2
open Go.RowKit Go.Lib in
theorem Tryd.strings_Count_any (s sep : ByteArray) (m : Int) (w : World) (hs : s.size < 4294967281) (hm : w.cell? ⟨0, 0, none⟩ = some (.int .i64 m)) (h1 : 1 ≤ sep.size) :
    Calls Tryd.prog 24 #[.string s, .string sep] w fun e w' => e = .returned (.int .i64 (Lib.countB s sep)) ∧ w' = w := Any.strings_Count_any Tryd.lays138 s sep m w hs hm h1
def Tryd.lays221_ren : Go.Shelf.Ren := ⟨fun | 221 => 18 | 268 => 23 | 138 => 24 | 143 => 25 | 195 => 30 | 197 => 31 | 218 => 32 | 219 => 33 | 260 => 35 | 217 => 36 | 225 => 37 | 224 => 38 | 267 => 39 | 266 => 41 | 314 => 42 | n => n, fun | 9 => 9 | 3 => 3 | 31 => 22 | 4 => 4 | 0 => 0 | 105 => 71 | 21 => 21 | 5 => 5 | 46 => 76 | 119 => 77 | 139 => 80 | 138 => 79 | 146 => 82 | 51 => 81 | n => n, fun | 1 => 0 | 3 => 1 | 4 => 2 | n => n⟩
theorem Tryd.lays221 : Go.Proofs.Lays.n221 Tryd.prog Tryd.lays221_ren := {
  mixed := by kernel_rfl
  f138 := Tryd.func24.trans (congrArg some (by kernel_rfl))
  f143 := Tryd.func25.trans (congrArg some (by kernel_rfl))
  f195 := Tryd.func30.trans (congrArg some (by kernel_rfl))
  f197 := Tryd.func31.trans (congrArg some (by kernel_rfl))
  f217 := Tryd.func36.trans (congrArg some (by kernel_rfl))
  f218 := Tryd.func32.trans (congrArg some (by kernel_rfl))
  f219 := Tryd.func33.trans (congrArg some (by kernel_rfl))
  f221 := Tryd.func18.trans (congrArg some (by kernel_rfl))
  f224 := Tryd.func38.trans (congrArg some (by kernel_rfl))
  f225 := Tryd.func37.trans (congrArg some (by kernel_rfl))
  f260 := Tryd.func35.trans (congrArg some (by kernel_rfl))
  f266 := Tryd.func41.trans (congrArg some (by kernel_rfl))
  f267 := Tryd.func39.trans (congrArg some (by kernel_rfl))
  f268 := Tryd.func23.trans (congrArg some (by kernel_rfl))
  f314 := Tryd.func42.trans (congrArg some (by kernel_rfl))
  t0 := Tryd.underlying0
  a0 := Tryd.isAgg0
  z0 := Tryd.sizeOf0
  v0 := Tryd.zeroValue0
  t3 := Tryd.underlying3
  a3 := Tryd.isAgg3
  z3 := Tryd.sizeOf3
  v3 := Tryd.zeroValue3
  t4 := Tryd.underlying4
  a4 := Tryd.isAgg4
  z4 := Tryd.sizeOf4
  v4 := Tryd.zeroValue4
  t5 := Tryd.underlying5
  a5 := Tryd.isAgg5
  z5 := Tryd.sizeOf5
  v5 := Tryd.zeroValue5
  t9 := Tryd.underlying9
  a9 := Tryd.isAgg9
  z9 := Tryd.sizeOf9
  v9 := Tryd.zeroValue9
  t21 := Tryd.underlying21
  a21 := Tryd.isAgg21
  z21 := Tryd.sizeOf21
  v21 := Tryd.zeroValue21
  t31 := Tryd.underlying22
  a31 := Tryd.isAgg22
  z31 := Tryd.sizeOf22
  v31 := Tryd.zeroValue22
  t46 := Tryd.underlying76
  a46 := Tryd.isAgg76
  z46 := Tryd.sizeOf76
  v46 := Tryd.zeroValue76
  t51 := Tryd.underlying81
  a51 := Tryd.isAgg81
  z51 := Tryd.sizeOf81
  v51 := Tryd.zeroValue81
  t105 := Tryd.underlying71
  a105 := Tryd.isAgg71
  z105 := Tryd.sizeOf71
  v105 := Tryd.zeroValue71
  t119 := Tryd.underlying77
  a119 := Tryd.isAgg77
  z119 := Tryd.sizeOf77
  t138 := Tryd.underlying79
  a138 := Tryd.isAgg79
  z138 := Tryd.sizeOf79
  v138 := Tryd.zeroValue79
  t139 := Tryd.underlying80
  a139 := Tryd.isAgg80
  z139 := Tryd.sizeOf80
  v139 := Tryd.zeroValue80
  t146 := Tryd.underlying82
  a146 := Tryd.isAgg82
  z146 := Tryd.sizeOf82
  v146 := Tryd.zeroValue82
  g1 := by kernel_rfl
  g3 := by kernel_rfl
  g4 := by kernel_rfl }
open Go.RowKit Go.Lib in
theorem Tryd.strings_genSplit (s sep : ByteArray) (sv : Nat) (n : Int) (N : Nat) (m : Int) (w : World) (hs : s.size < 4294967281) (hm : w.cell? ⟨0, 0, none⟩ = some (.int .i64 m)) (h1 : 1 ≤ sep.size) (hsv : sv ≤ sep.size) (hn0 : n ≠ 0) (hn63 : n ≤ 9223372036854775807) (hN : (N : Int) = min (if n < 0 then (Lib.countB s sep : Int) + 1 else n) ((s.size : Int) + 1)) :
    Calls Tryd.prog 18 #[.string s, .string sep, .int .i64 sv, .int .i64 n] w fun e w' =>
      e = .returned (.slice (some ⟨w.heap.size, 0, none⟩) (Lib.splitB sep sv (N - 1) s).length N) ∧ w' = w.alloc (.cells (Lib.cellsOf (Lib.splitB sep sv (N - 1) s) N) 9) := Any.strings_genSplit Tryd.lays221 (by kernel_rfl) s sep sv n N m w hs hm h1 hsv hn0 hn63 hN
def Tryd.lays146_ren : Go.Shelf.Ren := ⟨fun | 146 => 14 | 221 => 18 | 268 => 23 | 138 => 24 | 143 => 25 | 195 => 30 | 197 => 31 | 218 => 32 | 219 => 33 | 260 => 35 | 217 => 36 | 225 => 37 | 224 => 38 | 267 => 39 | 266 => 41 | 314 => 42 | n => n, fun | 9 => 9 | 31 => 22 | 3 => 3 | 4 => 4 | 0 => 0 | 105 => 71 | 21 => 21 | 5 => 5 | 46 => 76 | 119 => 77 | 139 => 80 | 138 => 79 | 146 => 82 | 51 => 81 | n => n, fun | 1 => 0 | 3 => 1 | 4 => 2 | n => n⟩
theorem Tryd.lays146 : Go.Proofs.Lays.n146 Tryd.prog Tryd.lays146_ren := {
  mixed := by kernel_rfl
  f138 := Tryd.func24.trans (congrArg some (by kernel_rfl))
  f143 := Tryd.func25.trans (congrArg some (by kernel_rfl))
  f146 := Tryd.func14.trans (congrArg some (by kernel_rfl))
  f195 := Tryd.func30.trans (congrArg some (by kernel_rfl))
  f197 := Tryd.func31.trans (congrArg some (by kernel_rfl))
  f217 := Tryd.func36.trans (congrArg some (by kernel_rfl))
  f218 := Tryd.func32.trans (congrArg some (by kernel_rfl))
  f219 := Tryd.func33.trans (congrArg some (by kernel_rfl))
  f221 := Tryd.func18.trans (congrArg some (by kernel_rfl))
  f224 := Tryd.func38.trans (congrArg some (by kernel_rfl))
  f225 := Tryd.func37.trans (congrArg some (by kernel_rfl))
  f260 := Tryd.func35.trans (congrArg some (by kernel_rfl))
  f266 := Tryd.func41.trans (congrArg some (by kernel_rfl))
  f267 := Tryd.func39.trans (congrArg some (by kernel_rfl))
  f268 := Tryd.func23.trans (congrArg some (by kernel_rfl))
  f314 := Tryd.func42.trans (congrArg some (by kernel_rfl))
  t0 := Tryd.underlying0
  a0 := Tryd.isAgg0
  z0 := Tryd.sizeOf0
  v0 := Tryd.zeroValue0
  t3 := Tryd.underlying3
  a3 := Tryd.isAgg3
  z3 := Tryd.sizeOf3
  v3 := Tryd.zeroValue3
  t4 := Tryd.underlying4
  a4 := Tryd.isAgg4
  z4 := Tryd.sizeOf4
  v4 := Tryd.zeroValue4
  t5 := Tryd.underlying5
  a5 := Tryd.isAgg5
  z5 := Tryd.sizeOf5
  v5 := Tryd.zeroValue5
  t9 := Tryd.underlying9
  a9 := Tryd.isAgg9
  z9 := Tryd.sizeOf9
  v9 := Tryd.zeroValue9
  t21 := Tryd.underlying21
  a21 := Tryd.isAgg21
  z21 := Tryd.sizeOf21
  v21 := Tryd.zeroValue21
  t31 := Tryd.underlying22
  a31 := Tryd.isAgg22
  z31 := Tryd.sizeOf22
  v31 := Tryd.zeroValue22
  t46 := Tryd.underlying76
  a46 := Tryd.isAgg76
  z46 := Tryd.sizeOf76
  v46 := Tryd.zeroValue76
  t51 := Tryd.underlying81
  a51 := Tryd.isAgg81
  z51 := Tryd.sizeOf81
  v51 := Tryd.zeroValue81
  t105 := Tryd.underlying71
  a105 := Tryd.isAgg71
  z105 := Tryd.sizeOf71
  v105 := Tryd.zeroValue71
  t119 := Tryd.underlying77
  a119 := Tryd.isAgg77
  z119 := Tryd.sizeOf77
  t138 := Tryd.underlying79
  a138 := Tryd.isAgg79
  z138 := Tryd.sizeOf79
  v138 := Tryd.zeroValue79
  t139 := Tryd.underlying80
  a139 := Tryd.isAgg80
  z139 := Tryd.sizeOf80
  v139 := Tryd.zeroValue80
  t146 := Tryd.underlying82
  a146 := Tryd.isAgg82
  z146 := Tryd.sizeOf82
  v146 := Tryd.zeroValue82
  g1 := by kernel_rfl
  g3 := by kernel_rfl
  g4 := by kernel_rfl }
open Go.RowKit Go.Lib in
theorem Tryd.strings_Split (s sep : ByteArray) (m : Int) (w : World) (hs : s.size < 4294967281) (hm : w.cell? ⟨0, 0, none⟩ = some (.int .i64 m)) (h1 : 1 ≤ sep.size) :
    Calls Tryd.prog 14 #[.string s, .string sep] w fun e w' =>
      e = .returned (.slice (some ⟨w.heap.size, 0, none⟩) (Lib.countB s sep + 1) (Lib.countB s sep + 1)) ∧ w' = w.alloc (.cells ((Lib.splitB sep 0 (Lib.countB s sep) s).map Value.string).toArray 9) := Any.strings_Split Tryd.lays146 (by kernel_rfl) s sep m w hs hm h1
def Tryd.laysM146_ren : Go.Shelf.Ren := ⟨fun | 146 => 14 | 221 => 18 | 268 => 23 | 138 => 24 | 143 => 25 | 195 => 30 | 197 => 31 | 218 => 32 | 219 => 33 | 260 => 35 | 217 => 36 | 225 => 37 | 224 => 38 | 267 => 39 | 266 => 41 | 314 => 42 | n => n, fun | 9 => 9 | 31 => 22 | 3 => 3 | 4 => 4 | 0 => 0 | 105 => 71 | 21 => 21 | 5 => 5 | 46 => 76 | 119 => 77 | 139 => 80 | 138 => 79 | 146 => 82 | 51 => 81 | n => n, fun | 1 => 0 | 3 => 1 | 4 => 2 | n => n⟩
theorem Tryd.laysM146 : Go.Proofs.LaysM.n146 Tryd.prog Tryd.laysM146_ren := {
  mixed := by kernel_rfl
  f138 := Tryd.func24.trans (congrArg some (by kernel_rfl))
  f143 := Tryd.func25.trans (congrArg some (by kernel_rfl))
  f146 := Tryd.func14.trans (congrArg some (by kernel_rfl))
  f195 := Tryd.func30.trans (congrArg some (by kernel_rfl))
  f197 := Tryd.func31.trans (congrArg some (by kernel_rfl))
  f217 := Tryd.func36.trans (congrArg some (by kernel_rfl))
  f218 := Tryd.func32.trans (congrArg some (by kernel_rfl))
  f219 := Tryd.func33.trans (congrArg some (by kernel_rfl))
  f221 := Tryd.func18.trans (congrArg some (by kernel_rfl))
  f224 := Tryd.func38.trans (congrArg some (by kernel_rfl))
  f225 := Tryd.func37.trans (congrArg some (by kernel_rfl))
  f260 := Tryd.func35.trans (congrArg some (by kernel_rfl))
  f266 := Tryd.func41.trans (congrArg some (by kernel_rfl))
  f267 := Tryd.func39.trans (congrArg some (by kernel_rfl))
  f268 := Tryd.func23.trans (congrArg some (by kernel_rfl))
  f314 := Tryd.func42.trans (congrArg some (by kernel_rfl))
  t0 := Tryd.underlying0
  a0 := Tryd.isAgg0
  z0 := Tryd.sizeOf0
  v0 := Tryd.zeroValue0
  t3 := Tryd.underlying3
  a3 := Tryd.isAgg3
  z3 := Tryd.sizeOf3
  v3 := Tryd.zeroValue3
  t4 := Tryd.underlying4
  a4 := Tryd.isAgg4
  z4 := Tryd.sizeOf4
  v4 := Tryd.zeroValue4
  t5 := Tryd.underlying5
  a5 := Tryd.isAgg5
  z5 := Tryd.sizeOf5
  v5 := Tryd.zeroValue5
  t9 := Tryd.underlying9
  a9 := Tryd.isAgg9
  z9 := Tryd.sizeOf9
  v9 := Tryd.zeroValue9
  t21 := Tryd.underlying21
  a21 := Tryd.isAgg21
  z21 := Tryd.sizeOf21
  v21 := Tryd.zeroValue21
  t31 := Tryd.underlying22
  a31 := Tryd.isAgg22
  z31 := Tryd.sizeOf22
  v31 := Tryd.zeroValue22
  t46 := Tryd.underlying76
  a46 := Tryd.isAgg76
  z46 := Tryd.sizeOf76
  v46 := Tryd.zeroValue76
  t51 := Tryd.underlying81
  a51 := Tryd.isAgg81
  z51 := Tryd.sizeOf81
  v51 := Tryd.zeroValue81
  t105 := Tryd.underlying71
  a105 := Tryd.isAgg71
  z105 := Tryd.sizeOf71
  v105 := Tryd.zeroValue71
  t119 := Tryd.underlying77
  a119 := Tryd.isAgg77
  z119 := Tryd.sizeOf77
  t138 := Tryd.underlying79
  a138 := Tryd.isAgg79
  z138 := Tryd.sizeOf79
  v138 := Tryd.zeroValue79
  t139 := Tryd.underlying80
  a139 := Tryd.isAgg80
  z139 := Tryd.sizeOf80
  v139 := Tryd.zeroValue80
  t146 := Tryd.underlying82
  a146 := Tryd.isAgg82
  z146 := Tryd.sizeOf82
  v146 := Tryd.zeroValue82
  g1 := by kernel_rfl
  g3 := by kernel_rfl
  g4 := by kernel_rfl
  i0 := by kernel_rfl
  i3 := by kernel_rfl
  i4 := by kernel_rfl
  i5 := by kernel_rfl
  i9 := by kernel_rfl
  i21 := by kernel_rfl
  i31 := by kernel_rfl
  i46 := by kernel_rfl
  i51 := by kernel_rfl
  i105 := by kernel_rfl
  i138 := by kernel_rfl
  i139 := by kernel_rfl
  i146 := by kernel_rfl
  m1 := by kernel_rfl
  s1_3 := fun w h => Go.Proofs.cell_of_shapedOpen_int (zero := #[.int .i64 0]) (t := 3) h (of_decide_eq_true (by kernel_rfl)) (by kernel_rfl) rfl (by kernel_rfl) (by kernel_rfl) Tryd.underlying3
  m3 := by kernel_rfl
  m4 := by kernel_rfl }
open Go.RowKit Go.Lib in
theorem Tryd.strings_Split_shaped (s sep : ByteArray) (w : World) (h : w.ShapedOpen Tryd.prog) (hs : s.size < 4294967281) (h1 : 1 ≤ sep.size) :
    Calls Tryd.prog 14 #[.string s, .string sep] w fun e w' =>
      e = .returned (.slice (some ⟨w.heap.size, 0, none⟩) (Lib.countB s sep + 1) (Lib.countB s sep + 1)) ∧ w' = w.alloc (.cells ((Lib.splitB sep 0 (Lib.countB s sep) s).map Value.string).toArray 9) := Any.strings_Split_shaped Tryd.laysM146 s sep w h hs h1
def Tryd.lays260_ren : Go.Shelf.Ren := ⟨fun | 260 => 35 | n => n, fun | 9 => 9 | 21 => 21 | 3 => 3 | 4 => 4 | 5 => 5 | 119 => 77 | 0 => 0 | 46 => 76 | 139 => 80 | 138 => 79 | n => n, fun | 3 => 1 | 4 => 2 | n => n⟩
theorem Tryd.lays260 : Go.Proofs.Lays.n260 Tryd.prog Tryd.lays260_ren := {
  mixed := by kernel_rfl
  f260 := Tryd.func35.trans (congrArg some (by kernel_rfl))
  t0 := Tryd.underlying0
  a0 := Tryd.isAgg0
  z0 := Tryd.sizeOf0
  v0 := Tryd.zeroValue0
  t3 := Tryd.underlying3
  a3 := Tryd.isAgg3
  z3 := Tryd.sizeOf3
  v3 := Tryd.zeroValue3
  t4 := Tryd.underlying4
  a4 := Tryd.isAgg4
  z4 := Tryd.sizeOf4
  v4 := Tryd.zeroValue4
  t5 := Tryd.underlying5
  a5 := Tryd.isAgg5
  z5 := Tryd.sizeOf5
  v5 := Tryd.zeroValue5
  t9 := Tryd.underlying9
  a9 := Tryd.isAgg9
  z9 := Tryd.sizeOf9
  v9 := Tryd.zeroValue9
  t21 := Tryd.underlying21
  a21 := Tryd.isAgg21
  z21 := Tryd.sizeOf21
  v21 := Tryd.zeroValue21
  t46 := Tryd.underlying76
  a46 := Tryd.isAgg76
  z46 := Tryd.sizeOf76
  v46 := Tryd.zeroValue76
  t119 := Tryd.underlying77
  a119 := Tryd.isAgg77
  z119 := Tryd.sizeOf77
  t138 := Tryd.underlying79
  a138 := Tryd.isAgg79
  z138 := Tryd.sizeOf79
  v138 := Tryd.zeroValue79
  t139 := Tryd.underlying80
  a139 := Tryd.isAgg80
  z139 := Tryd.sizeOf80
  v139 := Tryd.zeroValue80
  g3 := by kernel_rfl
  g4 := by kernel_rfl }
open Go.RowKit Go.Lib in
theorem Tryd.utf8_decodeRuneInStringSlow (s : ByteArray) (w : World) (hT : Lib.Utf8Tabs 1 2 w) :
    Calls Tryd.prog 35 #[.string s] w fun e w' => e = .returned (.tuple #[.int .i32 (Lib.decodeGo s).1, .int .i64 (Lib.decodeGo s).2]) ∧ Below w.heap.size w w' := Any.utf8_decodeRuneInStringSlow Tryd.lays260 s w hT
def Tryd.lays187_ren : Go.Shelf.Ren := ⟨fun | 187 => 34 | 255 => 40 | n => n, fun | 37 => 37 | 5 => 5 | 3 => 3 | n => n, fun | n => n⟩
theorem Tryd.lays187 : Go.Proofs.Lays.n187 Tryd.prog Tryd.lays187_ren := {
  mixed := by kernel_rfl
  f187 := Tryd.func34.trans (congrArg some (by kernel_rfl))
  f255 := Tryd.func40.trans (congrArg some (by kernel_rfl))
  t3 := Tryd.underlying3
  a3 := Tryd.isAgg3
  z3 := Tryd.sizeOf3
  v3 := Tryd.zeroValue3
  t5 := Tryd.underlying5
  a5 := Tryd.isAgg5
  z5 := Tryd.sizeOf5
  v5 := Tryd.zeroValue5
  t37 := Tryd.underlying37
  a37 := Tryd.isAgg37
  z37 := Tryd.sizeOf37
  v37 := Tryd.zeroValue37 }
theorem Tryd.bytes_IndexByte (b o n c : Nat) (xs : List Int) (cv : Int) (w : World) (hx : xs.length = n) (hc : ∀ i, i < n → w.cell? ⟨b, o + i, none⟩ = some (.int .u8 (xs.getD i 0))) :
    Calls Tryd.prog 34 #[.slice (some ⟨b, o, none⟩) n c, .int .u8 cv] w fun e w' => e = .returned (.int .i64 (Lib.indexByte (Lib.bytesOf xs) cv.toNat.toUInt8)) ∧ w' = w := Any.bytes_IndexByte Tryd.lays187 b o n c xs cv w hx hc
theorem Tryd.bytes_IndexByte_nil (cv : Int) (w : World) :
    Calls Tryd.prog 34 #[.slice none 0 0, .int .u8 cv] w fun e w' => e = .returned (.int .i64 (-1)) ∧ w' = w := Any.bytes_IndexByte_nil Tryd.lays187 cv w
end Go.Proofs
