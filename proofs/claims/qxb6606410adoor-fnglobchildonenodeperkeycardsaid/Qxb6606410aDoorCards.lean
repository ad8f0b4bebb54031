/-
  DERIVED. GIVEN WITH THE SEED: THE CARDS: each row of Qxb6606410aDoorRows.lean that lists a variable, with what it lists TIED to the program's text (the seventh form; the later family's looks); each row that meets fmt, with fmt's text TOLD by the authors' own Lean function (tested against real Go, not proved from fmt's source: count such statements apart). THE CARD IS WHAT COUNTS. Prove the row's statement (the work); the ties are given (Qxb6606410aDoorTie.lean); close each card by the builder's one call (the guide's Derived/Test/ToyasCard.lean, 'card_holds'). Laid BY PROGRAM, IN A SANDBOX (cutbox-door.mjs). By AI agents, Wed Nov 11 2026. No macro, syntax, notation, axiom, sorry.
-/
import Derived.Test.Qxb6606410aDoorRows
import GoSem.ClaimSeven
namespace Go.Proofs.Qxb6606410aDoor
namespace Rows

/-- THE TIED CARD OF 'zzlaws_event_b1.FnGlobChildOneNodePerKey'. -/
def fnGlobChildOneNodePerKeyCard : Claim7 := { stood := { row := fnGlobChildOneNodePerKeyRow, standIns := [], harness := (true, "eb8992fb89e430897f3c9d9d0e72b35e36371e9507982e491f72f86b87e5668c"), looks := false }, kinds := [], alts := [], laidByText := true, laidKinds := [.data, .pinned], laidTests := true, laidLooks := .later }
def FnGlobChildOneNodePerKeyCardSaid : Prop := Claim7.holds Tryd.pinned (.plain (OpenSpec.ofChange fnGlobChildOneNodePerKeySpec)) fnGlobChildOneNodePerKeyCard

/-- THE TIED CARD OF 'zzlaws_event_b1.FnGlobChildOrderFreeAndUnshared'. -/
def fnGlobChildOrderFreeAndUnsharedCard : Claim7 := { stood := { row := fnGlobChildOrderFreeAndUnsharedRow, standIns := [], harness := (true, "eb8992fb89e430897f3c9d9d0e72b35e36371e9507982e491f72f86b87e5668c"), looks := false }, kinds := [], alts := [], laidByText := true, laidKinds := [.data, .pinned], laidTests := true, laidLooks := .later }
def FnGlobChildOrderFreeAndUnsharedCardSaid : Prop := Claim7.holds Tryd.pinned (.plain (OpenSpec.ofChange fnGlobChildOrderFreeAndUnsharedSpec)) fnGlobChildOrderFreeAndUnsharedCard
end Rows
end Go.Proofs.Qxb6606410aDoor
