import Derived.Test.Qxb6614461aFmtRows
import Derived.Stop.CallBack
import Derived.Stop.IfaceNil
import GoSem.ClaimData
import Derived.WalkKit
namespace Go.Proofs
open Go.Extern.Stop Go.Stop Go.Extern

theorem Tryf.call22 (args : Array Value) (w : World) : (callFunc 22 args).run Tryf.prog w = ((FmtStop.errorf #[9, 64] #[32] args).run Tryf.prog w).andThen fun v w' => .ok (.value v) w' :=
  run_callFunc_extern Tryf.func22 (by kernel_rfl) (by kernel_rfl) (by kernel_rfl) (by kernel_rfl) args w

theorem Tryf.guard (name : String) (w : World) : (FmtStop.guard name).run Tryf.prog w = .ok () w := by kernel_rfl
theorem Tryf.fmt0 : FmtStop.printed? ⟨#[112, 111, 115, 105, 116, 105, 111, 110, 32, 37, 100, 58, 37, 100, 58, 32, 108, 105, 110, 101, 115, 32, 97, 110, 100, 32, 99, 111, 108, 117, 109, 110, 115, 32, 99, 111, 117, 110, 116, 32, 102, 114, 111, 109, 32, 49]⟩ 2 = some [(0, 100, false), (1, 100, false)] := by kernel_rfl
theorem Tryf.fmt0r (w : World) : (FmtDoors.printed ⟨#[112, 111, 115, 105, 116, 105, 111, 110, 32, 37, 100, 58, 37, 100, 58, 32, 108, 105, 110, 101, 115, 32, 97, 110, 100, 32, 99, 111, 108, 117, 109, 110, 115, 32, 99, 111, 117, 110, 116, 32, 102, 114, 111, 109, 32, 49]⟩ 2).run Tryf.prog w = .ok [(0, 100, false), (1, 100, false)] w := by kernel_rfl
theorem Tryf.fmt1 : FmtStop.printed? ⟨#[108, 105, 110, 101, 32, 37, 100, 32, 105, 115, 32, 112, 97, 115, 116, 32, 116, 104, 101, 32, 108, 97, 115, 116, 32, 108, 105, 110, 101, 32, 111, 102, 32, 116, 104, 101, 32, 116, 101, 120, 116, 32, 40, 37, 100, 32, 108, 105, 110, 101, 115, 41]⟩ 2 = some [(0, 100, false), (1, 100, false)] := by kernel_rfl
theorem Tryf.fmt1r (w : World) : (FmtDoors.printed ⟨#[108, 105, 110, 101, 32, 37, 100, 32, 105, 115, 32, 112, 97, 115, 116, 32, 116, 104, 101, 32, 108, 97, 115, 116, 32, 108, 105, 110, 101, 32, 111, 102, 32, 116, 104, 101, 32, 116, 101, 120, 116, 32, 40, 37, 100, 32, 108, 105, 110, 101, 115, 41]⟩ 2).run Tryf.prog w = .ok [(0, 100, false), (1, 100, false)] w := by kernel_rfl
theorem Tryf.fmt2 : FmtStop.printed? ⟨#[99, 111, 108, 117, 109, 110, 32, 37, 100, 32, 105, 115, 32, 112, 97, 115, 116, 32, 116, 104, 101, 32, 101, 110, 100, 32, 111, 102, 32, 108, 105, 110, 101, 32, 37, 100, 32, 40, 37, 100, 32, 99, 104, 97, 114, 97, 99, 116, 101, 114, 115, 41]⟩ 3 = some [(0, 100, false), (1, 100, false), (2, 100, false)] := by kernel_rfl
theorem Tryf.fmt2r (w : World) : (FmtDoors.printed ⟨#[99, 111, 108, 117, 109, 110, 32, 37, 100, 32, 105, 115, 32, 112, 97, 115, 116, 32, 116, 104, 101, 32, 101, 110, 100, 32, 111, 102, 32, 108, 105, 110, 101, 32, 37, 100, 32, 40, 37, 100, 32, 99, 104, 97, 114, 97, 99, 116, 101, 114, 115, 41]⟩ 3).run Tryf.prog w = .ok [(0, 100, false), (1, 100, false), (2, 100, false)] w := by kernel_rfl
theorem Tryf.fmt3 : FmtStop.printed? ⟨#[117, 110, 107, 110, 111, 119, 110, 32, 112, 111, 115, 105, 116, 105, 111, 110, 32, 101, 110, 99, 111, 100, 105, 110, 103, 32, 37, 113]⟩ 1 = some [(0, 113, false)] := by kernel_rfl
theorem Tryf.fmt3r (w : World) : (FmtDoors.printed ⟨#[117, 110, 107, 110, 111, 119, 110, 32, 112, 111, 115, 105, 116, 105, 111, 110, 32, 101, 110, 99, 111, 100, 105, 110, 103, 32, 37, 113]⟩ 1).run Tryf.prog w = .ok [(0, 113, false)] w := by kernel_rfl

theorem Tryf.name3 : Tryf.prog.typeName? 3 3 = some "int" := by kernel_rfl
def Tryf.shape3 : List UInt8 := [5, 3, 0, 0, 0, 0, 0, 0, 0, 105, 110, 116]
theorem Tryf.op3_100 (name : String) (x : Int) (w : World) : (FmtStop.operand name false 100 false (.iface 3 (.int .i64 x))).run Tryf.prog w = .ok (Tryf.shape3, Go.Extern.Stop.digits 8 (x % 2 ^ 64).toNat) w := by kernel_rfl
theorem Tryf.op3_100w (name : String) (x : Int) (w : World) : (FmtStop.operand name true 100 false (.iface 3 (.int .i64 x))).run Tryf.prog w = .ok (Tryf.shape3, Go.Extern.Stop.digits 8 (x % 2 ^ 64).toNat) w := by kernel_rfl
def Tryf.shape28 : List UInt8 := 12 :: FmtStop.pack "position.Encoding".toUTF8.data.toList
theorem Tryf.op28_113 (name : String) (x : ByteArray) (w : World) : (FmtStop.operand name false 113 false (.iface 28 (.string x))).run Tryf.prog w = .ok (Tryf.shape28, FmtStop.pack x.data.toList) w := by kernel_rfl
theorem Tryf.op28_113w (name : String) (x : ByteArray) (w : World) : (FmtStop.operand name true 113 false (.iface 28 (.string x))).run Tryf.prog w = .ok (Tryf.shape28, FmtStop.pack x.data.toList) w := by kernel_rfl
theorem Tryf.ptr72 (w : World) : (FmtStop.ptrTo "errors.errorString").run Tryf.prog w = .ok 72 w := by kernel_rfl
theorem Tryf.elem72 (w : World) : (elemOf 72).run Tryf.prog w = .ok 74 w := by kernel_rfl
theorem Tryf.isError72' (w : World) : (FmtDoors.textMethod 72 "Error").run Tryf.prog w = .ok true w := by kernel_rfl
end Go.Proofs
