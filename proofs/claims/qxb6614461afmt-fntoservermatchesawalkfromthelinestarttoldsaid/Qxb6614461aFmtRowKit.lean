import Derived.Test.Qxb6614461aFmtShelf
import Derived.Test.Qxb6614461aFmtTie
import Derived.Test.Qxb6614461aFmtCards
import Derived.ProofKit
import Derived.Lay
import Derived.LaidOnce
import Derived.PinnedBridge
import Derived.Lib.LaidU8T
import Derived.Stop.JoinedTold
import Derived.SevenTiedAt
import Derived.Deep.DeepWitnessRef
namespace Go.Proofs.Qxb6614461aFmt
open Go.ChangeShapes Go.WideShapes Go.ChangeAt Go.RowKit
open Go.ChangeMaps (open_string shut_string)
open Go.Extern.Stop Go.Stop Go.Extern

theorem own : ownKnob Tryf.prog.godebug = none := by kernel_rfl
theorem laidOut : laidOutB Tryf.pinned.checked.prog = true := by kernel_rfl
theorem stops : Tryf.pinned.checked.prog.stops = ["fmt.errorf"] := by kernel_rfl
theorem stopKnobs : Tryf.pinned.checked.prog.stopKnobs = [] := by kernel_rfl
theorem quiet (os : Os) : Stop.quiet Tryf.pinned.checked.prog os := by
  intro k hk
  rw [stopKnobs] at hk
  cases hk

/-- What both rows list. -/
def laidAll : List (String × DataW Unit) := Rows.fnToServerReadsOnlyItsOwnLineRow.laid

def u8ren : Go.Shelf.Ren := ⟨fun n => n, fun | 5 => 5 | 119 => 76 | 138 => 78 | 139 => 79 | n => n, fun | 3 => 0 | 4 => 1 | n => n⟩
theorem u8types : U8Types Tryf.prog u8ren := ⟨by kernel_rfl, by kernel_rfl, by kernel_rfl, by kernel_rfl⟩
theorem u8extra : U8Extra Tryf.prog u8ren := ⟨by kernel_rfl, by kernel_rfl, by kernel_rfl, by kernel_rfl, by kernel_rfl, by kernel_rfl, by kernel_rfl⟩
theorem accept_eq : (Rows.laid_unicode_utf8_acceptRanges : DataW Unit) = Lib.acceptData := by kernel_rfl
theorem first_eq : Rows.laid_unicode_utf8_first = Lib.firstData := Pinned.utf8First_eq

theorem tabs_of {W : World} (hL : laidMet Tryf.prog laidAll W) : Lib.Utf8Tabs 0 1 W :=
  utf8Tabs_of_readsT u8types u8extra (first_eq ▸ Lib.laidMet.reads hL (by simp [laidAll, Rows.fnToServerReadsOnlyItsOwnLineRow])) (accept_eq ▸ Lib.laidMet.reads hL (by simp [laidAll, Rows.fnToServerReadsOnlyItsOwnLineRow]))

theorem laid_met (os : Os) (args : Array Value) : laidMet Tryf.prog laidAll ((World.laidAll Tryf.prog os laidAll).forCall (fun _ _ => 0) ⟨#[], args, []⟩).memory :=
  laidMet_laidAll _ (by kernel_rfl) (by kernel_rfl)
end Go.Proofs.Qxb6614461aFmt
