import Derived.Test.Qxb6614461aFmtF1
import Derived.WalkSpells
namespace Go.Proofs.Qxb6614461aFmt
open Go.RowKit Go.Extern.Stop Go.Stop Go.Extern

attribute [local go_sem] Tryf.call22 Tryf.guard Tryf.fmt0 Tryf.fmt0r Tryf.fmt1 Tryf.fmt1r Tryf.fmt2 Tryf.fmt2r Tryf.fmt3 Tryf.fmt3r Tryf.op3_100 Tryf.op3_100w Tryf.op28_113 Tryf.op28_113w Tryf.ptr72 Tryf.elem72 Tryf.isError72'

theorem errorf0 (F : Interp) (blk : Nat) (x0 x1 : Int) (w : World) (hF : F.answers w.tape) (hc0 : w.cell? ⟨blk, 0, none⟩ = some (.iface 3 (.int .i64 x0))) (hc1 : w.cell? ⟨blk, 1, none⟩ = some (.iface 3 (.int .i64 x1))) :
    Calls Tryf.prog 17 #[.string ⟨#[112, 111, 115, 105, 116, 105, 111, 110, 32, 37, 100, 58, 37, 100, 58, 32, 108, 105, 110, 101, 115, 32, 97, 110, 100, 32, 99, 111, 108, 117, 109, 110, 115, 32, 99, 111, 117, 110, 116, 32, 102, 114, 111, 109, 32, 49]⟩, .slice (some ⟨blk, 0, none⟩) 2 2] w fun e w' => ∃ a, e = .returned (.iface 72 (.pointer (some a))) ∧ Below w.heap.size w w' := by
  have hF' := answers_open hF
  go_enter Tryf.func17, Tryf.ntmps17
  go_wp2
  go_ret
  exact ⟨_, rfl, ((Below.refl _ _).alloc (Nat.le_refl _) _).drew⟩

theorem errorf1 (F : Interp) (blk : Nat) (x0 x1 : Int) (w : World) (hF : F.answers w.tape) (hc0 : w.cell? ⟨blk, 0, none⟩ = some (.iface 3 (.int .i64 x0))) (hc1 : w.cell? ⟨blk, 1, none⟩ = some (.iface 3 (.int .i64 x1))) :
    Calls Tryf.prog 17 #[.string ⟨#[108, 105, 110, 101, 32, 37, 100, 32, 105, 115, 32, 112, 97, 115, 116, 32, 116, 104, 101, 32, 108, 97, 115, 116, 32, 108, 105, 110, 101, 32, 111, 102, 32, 116, 104, 101, 32, 116, 101, 120, 116, 32, 40, 37, 100, 32, 108, 105, 110, 101, 115, 41]⟩, .slice (some ⟨blk, 0, none⟩) 2 2] w fun e w' => ∃ a, e = .returned (.iface 72 (.pointer (some a))) ∧ Below w.heap.size w w' := by
  have hF' := answers_open hF
  go_enter Tryf.func17, Tryf.ntmps17
  go_wp2
  go_ret
  exact ⟨_, rfl, ((Below.refl _ _).alloc (Nat.le_refl _) _).drew⟩

theorem errorf2 (F : Interp) (blk : Nat) (x0 x1 x2 : Int) (w : World) (hF : F.answers w.tape) (hc0 : w.cell? ⟨blk, 0, none⟩ = some (.iface 3 (.int .i64 x0))) (hc1 : w.cell? ⟨blk, 1, none⟩ = some (.iface 3 (.int .i64 x1))) (hc2 : w.cell? ⟨blk, 2, none⟩ = some (.iface 3 (.int .i64 x2))) :
    Calls Tryf.prog 17 #[.string ⟨#[99, 111, 108, 117, 109, 110, 32, 37, 100, 32, 105, 115, 32, 112, 97, 115, 116, 32, 116, 104, 101, 32, 101, 110, 100, 32, 111, 102, 32, 108, 105, 110, 101, 32, 37, 100, 32, 40, 37, 100, 32, 99, 104, 97, 114, 97, 99, 116, 101, 114, 115, 41]⟩, .slice (some ⟨blk, 0, none⟩) 3 3] w fun e w' => ∃ a, e = .returned (.iface 72 (.pointer (some a))) ∧ Below w.heap.size w w' := by
  have hF' := answers_open hF
  go_enter Tryf.func17, Tryf.ntmps17
  go_wp2
  go_ret
  exact ⟨_, rfl, ((Below.refl _ _).alloc (Nat.le_refl _) _).drew⟩

theorem errorf3 (F : Interp) (blk : Nat) (x0 : ByteArray) (w : World) (hF : F.answers w.tape) (hc0 : w.cell? ⟨blk, 0, none⟩ = some (.iface 28 (.string x0))) :
    Calls Tryf.prog 17 #[.string ⟨#[117, 110, 107, 110, 111, 119, 110, 32, 112, 111, 115, 105, 116, 105, 111, 110, 32, 101, 110, 99, 111, 100, 105, 110, 103, 32, 37, 113]⟩, .slice (some ⟨blk, 0, none⟩) 1 1] w fun e w' => ∃ a, e = .returned (.iface 72 (.pointer (some a))) ∧ Below w.heap.size w w' := by
  have hF' := answers_open hF
  go_enter Tryf.func17, Tryf.ntmps17
  go_wp2
  go_ret
  exact ⟨_, rfl, ((Below.refl _ _).alloc (Nat.le_refl _) _).drew⟩

end Go.Proofs.Qxb6614461aFmt
