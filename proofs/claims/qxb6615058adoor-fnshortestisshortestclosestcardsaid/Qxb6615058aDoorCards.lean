/-
  DERIVED. GIVEN WITH THE SEED: THE CARDS: each row of Qxb6615058aDoorRows.lean that lists a variable, with what it lists TIED to the program's text (the seventh form; the later family's looks); each row that meets fmt, with fmt's text TOLD by the authors' own Lean function (tested against real Go, not proved from fmt's source: count such statements apart). THE CARD IS WHAT COUNTS. Prove the row's statement (the work); the ties are given (Qxb6615058aDoorTie.lean); close each card by the builder's one call (the guide's Derived/Test/ToyasCard.lean, 'card_holds'). Laid BY PROGRAM, IN A SANDBOX (cutbox-door.mjs). By AI agents, Wed Nov 11 2026. No macro, syntax, notation, axiom, sorry.
-/
import Derived.Test.Qxb6615058aDoorRows
import GoSem.ClaimSeven
namespace Go.Proofs.Qxb6615058aDoor
namespace Rows

/-- THE TIED CARD OF 'zzlaws_pkg_exact_b1.FnShortestIsShortestClosest'. -/
def fnShortestIsShortestClosestCard : Claim7 := { stood := { row := fnShortestIsShortestClosestRow, standIns := [], harness := (true, "21d5331b91d26e3fe464fb26cc1fd1d74dc5a1cd41d5599e3bdf19fd9de21dcf"), looks := false }, kinds := [], alts := [], laidByText := true, laidKinds := [.data, .data, .data, .data, .pinned, .pinned], laidTests := true, laidLooks := .later }
def FnShortestIsShortestClosestCardSaid : Prop := Claim7.holds Tryd.pinned (.plain (OpenSpec.ofChange fnShortestIsShortestClosestSpec)) fnShortestIsShortestClosestCard

/-- THE TIED CARD OF 'zzlaws_pkg_exact_b1.FnShortestKeepsOrder'. -/
def fnShortestKeepsOrderCard : Claim7 := { stood := { row := fnShortestKeepsOrderRow, standIns := [], harness := (true, "21d5331b91d26e3fe464fb26cc1fd1d74dc5a1cd41d5599e3bdf19fd9de21dcf"), looks := false }, kinds := [], alts := [], laidByText := true, laidKinds := [.data, .data, .data, .data, .pinned, .pinned], laidTests := true, laidLooks := .later }
def FnShortestKeepsOrderCardSaid : Prop := Claim7.holds Tryd.pinned (.plain (OpenSpec.ofChange fnShortestKeepsOrderSpec)) fnShortestKeepsOrderCard
end Rows
end Go.Proofs.Qxb6615058aDoor
