/-
  DERIVED. GIVEN WITH THE SEED: THE CARDS: each row of Qxb6614461aFmtRows.lean that lists a variable, with what it lists TIED to the program's text (the seventh form; the later family's looks); each row that meets fmt, with fmt's text TOLD by the authors' own Lean function (tested against real Go, not proved from fmt's source: count such statements apart). THE CARD IS WHAT COUNTS. Prove the row's statement (the work); the ties are given (Qxb6614461aFmtTie.lean); close each card by the builder's one call (the guide's Derived/Test/ToyasCard.lean, 'card_holds'). Laid BY PROGRAM, IN A SANDBOX (cutbox-door.mjs). By AI agents, Wed Nov 11 2026. No macro, syntax, notation, axiom, sorry.
-/
import Derived.Test.Qxb6614461aFmtRows
import GoSem.ClaimSeven
namespace Go.Proofs.Qxb6614461aFmt
namespace Rows

/-- THE TOLD AND TIED CARD OF 'zzlaws_position_b1.FnToServerMatchesAWalkFromTheLineStart'. -/
def fnToServerMatchesAWalkFromTheLineStartCard : Claim7 := { stood := { row := fnToServerMatchesAWalkFromTheLineStartRow, standIns := [], harness := (true, "c6cce8523d9df6731d9035ccbe22481d32d1cda9d87694ef04d64b42bd7fb66e"), looks := false }, told := true, laidByText := true, laidKinds := [.data, .pinned], laidTests := true, laidLooks := .later, goes := false }
def FnToServerMatchesAWalkFromTheLineStartToldSaid : Prop := Claim7.holds Tryf.pinned (.plain (OpenSpec.ofChange fnToServerMatchesAWalkFromTheLineStartSpec)) fnToServerMatchesAWalkFromTheLineStartCard
/-- ITS FALSE NEIGHBOUR. Refute it at one input. -/
def FnToServerMatchesAWalkFromTheLineStartToldWrongFalsely : Prop := Claim7.holds Tryf.pinned (.plain (OpenSpec.ofChange fnToServerMatchesAWalkFromTheLineStartWrong)) fnToServerMatchesAWalkFromTheLineStartCard

/-- THE TOLD AND TIED CARD OF 'zzlaws_position_b1.FnToServerReadsOnlyItsOwnLine'. -/
def fnToServerReadsOnlyItsOwnLineCard : Claim7 := { stood := { row := fnToServerReadsOnlyItsOwnLineRow, standIns := [], harness := (true, "c6cce8523d9df6731d9035ccbe22481d32d1cda9d87694ef04d64b42bd7fb66e"), looks := false }, told := true, laidByText := true, laidKinds := [.data, .pinned], laidTests := true, laidLooks := .later, goes := false }
def FnToServerReadsOnlyItsOwnLineToldSaid : Prop := Claim7.holds Tryf.pinned (.plain (OpenSpec.ofChange fnToServerReadsOnlyItsOwnLineSpec)) fnToServerReadsOnlyItsOwnLineCard
/-- ITS FALSE NEIGHBOUR. Refute it at one input. -/
def FnToServerReadsOnlyItsOwnLineToldWrongFalsely : Prop := Claim7.holds Tryf.pinned (.plain (OpenSpec.ofChange fnToServerReadsOnlyItsOwnLineWrong)) fnToServerReadsOnlyItsOwnLineCard
end Rows
end Go.Proofs.Qxb6614461aFmt
