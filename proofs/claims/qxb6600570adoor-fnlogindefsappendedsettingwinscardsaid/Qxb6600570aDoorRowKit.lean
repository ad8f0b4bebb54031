/-
  What both rows list, read off the world; what both cards use.
-/
import Derived.Test.Qxb6600570aDoorShelf
import Derived.Test.Qxb6600570aDoorRows
import Derived.Test.Qxb6600570aDoorTie
import Derived.Test.Qxb6600570aDoorCards
import Derived.ProofKit
import Derived.OpenShut
import Derived.Lay
import Derived.LaidOnce
import Derived.PinnedBridge
import Derived.Lib.LaidU8T
import Derived.Shelf.Unicode.PredsPay
import Derived.SevenTiedAt
import Derived.Stop.Joined
namespace Go.Proofs.Qxb6600570aDoor
open Go.ChangeShapes Go.WideShapes Go.ChangeAt Go.RowKit Go.Shelf

theorem own : ownKnob Tryd.prog.godebug = none := by kernel_rfl
theorem laidOut : laidOutB Tryd.prog = true := by kernel_rfl
theorem Tryd.cells9 : Tryd.prog.cellsOf 9 = 1 := by kernel_rfl

/-- What both rows list. -/
def laidAll : List (String × DataW Unit) := Rows.fnLoginDefsMatchesBackwardScanRow.laid

theorem accept_eq : (Rows.laid_unicode_utf8_acceptRanges : DataW Unit) = Lib.acceptData := by kernel_rfl
theorem first_eq : Rows.laid_unicode_utf8_first = Lib.firstData := Pinned.utf8First_eq
theorem white_eq : (Rows.laid_unicode_White_Space : DataW Unit) = Lib.whiteData := by kernel_rfl
theorem ascii_eq : (Rows.laid_strings_asciiSpace : DataW Unit) = Lib.tabData .u8 Lib.asciiSpaceTab := by kernel_rfl

theorem gA : Tryd.prog.globalNamed "strings.asciiSpace" = some (Tryd.lays163_ren.g 0) := by kernel_rfl

theorem tabIs_of_reads {w : World} {t : TypeId} (hty : (Tryd.prog.globals[Tryd.lays163_ren.g 0]?).map (·.type) = some t) (ht : Tryd.prog.underlying t = some (.array 256 5)) (hct : Tryd.prog.cellsOf t = 256)
    (h : Lib.VarReads Tryd.prog w "strings.asciiSpace" (Lib.tabData .u8 Lib.asciiSpaceTab)) : Lib.TabIs Tryd.prog w "strings.asciiSpace" .u8 Lib.asciiSpaceTab := by
  obtain ⟨g, t', cs, fuel, p, hg, hty', hvar, hd⟩ := h
  obtain rfl := Option.some.inj (gA.symm.trans hg)
  obtain rfl := Option.some.inj (hty.symm.trans hty')
  unfold Lib.TabIs
  rw [hvar, ← Lib.cells_of_tab ht Tryd.underlying5 (by kernel_rfl) hct hd]

theorem tabs_of {W : World} (hL : laidMet Tryd.prog laidAll W) : Lib.TabIs Tryd.prog W "strings.asciiSpace" .u8 Lib.asciiSpaceTab ∧ Lib.Utf8Tabs 6 7 W ∧ Lib.WhiteTab 1 W := by
  refine ⟨tabIs_of_reads (t := Tryd.lays163_ren.t 119) (by kernel_rfl) (by kernel_rfl) (by kernel_rfl) (ascii_eq ▸ Lib.laidMet.reads hL (by simp [laidAll, Rows.fnLoginDefsMatchesBackwardScanRow])), ?_, ?_⟩
  · exact utf8Tabs_of_readsT (ρ := Tryd.lays163_ren) { Tryd.lays163 with } ⟨by kernel_rfl, by kernel_rfl, by kernel_rfl, by kernel_rfl, by kernel_rfl, by kernel_rfl, by kernel_rfl⟩ (first_eq ▸ Lib.laidMet.reads hL (by simp [laidAll, Rows.fnLoginDefsMatchesBackwardScanRow])) (accept_eq ▸ Lib.laidMet.reads hL (by simp [laidAll, Rows.fnLoginDefsMatchesBackwardScanRow]))
  · exact whiteTab_of_reads (ρ := Tryd.lays163_ren) { Tryd.lays163 with } ⟨by kernel_rfl, by kernel_rfl, by kernel_rfl, by kernel_rfl, by kernel_rfl, by kernel_rfl, by kernel_rfl, by kernel_rfl⟩ (white_eq ▸ Lib.laidMet.reads hL (by simp [laidAll, Rows.fnLoginDefsMatchesBackwardScanRow]))

theorem tabs_below {w W : World} (h : Lib.TabIs Tryd.prog w "strings.asciiSpace" .u8 Lib.asciiSpaceTab ∧ Lib.Utf8Tabs 6 7 w ∧ Lib.WhiteTab 1 w) (hb : Below w.heap.size w W) : Lib.TabIs Tryd.prog W "strings.asciiSpace" .u8 Lib.asciiSpaceTab ∧ Lib.Utf8Tabs 6 7 W ∧ Lib.WhiteTab 1 W :=
  ⟨TabIs_below gA h.1 hb, Utf8Tabs_below h.2.1 hb, WhiteTab_below h.2.2 hb⟩
end Go.Proofs.Qxb6600570aDoor
