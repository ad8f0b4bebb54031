import Derived.Shelf.Lays7
import Derived.Ground.Names7Prog
import Derived.Shelf.Spec.DecodeRune
import Derived.Test.Qxb6614461aFmtProg
namespace Go.Proofs
open Go.Shelf Go.RowKit
def Tryf.lays32_ren : Go.Shelf.Ren := ⟨fun | 32 => 26 | 49 => 28 | n => n, fun | 30 => 23 | 21 => 21 | 3 => 3 | 0 => 0 | 5 => 5 | 4 => 4 | 33 => 69 | 66 => 76 | 25 => 75 | 69 => 79 | 68 => 78 | n => n, fun | 2 => 0 | 3 => 1 | n => n⟩
theorem Tryf.lays32 : Go.Proofs.Lays7.n32 Tryf.prog Tryf.lays32_ren := {
  mixed := by kernel_rfl
  f32 := Tryf.func26.trans (congrArg some (by kernel_rfl))
  f49 := Tryf.func28.trans (congrArg some (by kernel_rfl))
  t0 := Tryf.underlying0
  a0 := Tryf.isAgg0
  z0 := Tryf.sizeOf0
  v0 := Tryf.zeroValue0
  i0 := by kernel_rfl
  t3 := Tryf.underlying3
  a3 := Tryf.isAgg3
  z3 := Tryf.sizeOf3
  v3 := Tryf.zeroValue3
  i3 := by kernel_rfl
  t4 := Tryf.underlying4
  a4 := Tryf.isAgg4
  z4 := Tryf.sizeOf4
  v4 := Tryf.zeroValue4
  i4 := by kernel_rfl
  t5 := Tryf.underlying5
  a5 := Tryf.isAgg5
  z5 := Tryf.sizeOf5
  v5 := Tryf.zeroValue5
  i5 := by kernel_rfl
  t21 := Tryf.underlying21
  a21 := Tryf.isAgg21
  z21 := Tryf.sizeOf21
  v21 := Tryf.zeroValue21
  i21 := by kernel_rfl
  t25 := Tryf.underlying75
  a25 := Tryf.isAgg75
  z25 := Tryf.sizeOf75
  v25 := Tryf.zeroValue75
  i25 := by kernel_rfl
  t30 := Tryf.underlying23
  a30 := Tryf.isAgg23
  z30 := Tryf.sizeOf23
  v30 := Tryf.zeroValue23
  i30 := by kernel_rfl
  t33 := Tryf.underlying69
  a33 := Tryf.isAgg69
  z33 := Tryf.sizeOf69
  v33 := Tryf.zeroValue69
  i33 := by kernel_rfl
  t66 := Tryf.underlying76
  a66 := Tryf.isAgg76
  z66 := Tryf.sizeOf76
  t68 := Tryf.underlying78
  a68 := Tryf.isAgg78
  z68 := Tryf.sizeOf78
  v68 := Tryf.zeroValue78
  i68 := by kernel_rfl
  t69 := Tryf.underlying79
  a69 := Tryf.isAgg79
  z69 := Tryf.sizeOf79
  v69 := Tryf.zeroValue79
  i69 := by kernel_rfl
  g2 := by kernel_rfl
  g3 := by kernel_rfl }
theorem Tryf.DecodeRune (s : ByteArray) (b off cap : Nat) (w : World) (hT : Lib.Utf8Tabs 0 1 w)
    (hp : ∀ j, j < s.size → w.cell? ⟨b, off + j, none⟩ = some (.int .u8 (s.get! j).toNat)) :
    Calls Tryf.prog 26 #[.slice (some ⟨b, off, none⟩) s.size cap] w fun e w' => e = .returned (.tuple #[.int .i32 (Lib.decodeGo s).1, .int .i64 (Lib.decodeGo s).2]) ∧ Below w.heap.size w w' :=
  Any7.utf8_DecodeRune Tryf.lays32 s b off cap w hT hp
end Go.Proofs
