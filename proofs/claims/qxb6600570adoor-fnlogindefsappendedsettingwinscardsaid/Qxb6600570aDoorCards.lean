/-
  DERIVED. GIVEN WITH THE SEED: THE CARDS: each row of Qxb6600570aDoorRows.lean that lists a variable, with what it lists TIED to the program's text (the seventh form; the later family's looks); each row that meets fmt, with fmt's text TOLD by the authors' own Lean function (tested against real Go, not proved from fmt's source: count such statements apart). THE CARD IS WHAT COUNTS. Prove the row's statement (the work); the ties are given (Qxb6600570aDoorTie.lean); close each card by the builder's one call (the guide's Derived/Test/ToyasCard.lean, 'card_holds'). Laid BY PROGRAM, IN A SANDBOX (cutbox-door.mjs). By AI agents, Wed Nov 11 2026. No macro, syntax, notation, axiom, sorry.
-/
import Derived.Test.Qxb6600570aDoorRows
import GoSem.ClaimSeven
namespace Go.Proofs.Qxb6600570aDoor
namespace Rows

/-- THE TIED CARD OF 'zzlaws_internal_accounts_b1.FnNumberReadsEveryRendering'. -/
def fnNumberReadsEveryRenderingCard : Claim7 := { stood := { row := fnNumberReadsEveryRenderingRow, standIns := [], harness := (true, "e996dc704682fc1372ac8af4cdc0727e5f865de8f00072e98ee118ec652b3045"), looks := true }, kinds := [], alts := [], laidByText := true, laidKinds := [.data, .data, .data, .data, .sentinel, .sentinel, .pinned, .pinned], laidTests := true, laidLooks := .later }
def FnNumberReadsEveryRenderingCardSaid : Prop := Claim7.holds Tryd.pinned (.plain (OpenSpec.ofChange fnNumberReadsEveryRenderingSpec)) fnNumberReadsEveryRenderingCard

/-- THE TIED CARD OF 'zzlaws_internal_accounts_b1.FnNumberSignAndWhiteSpace'. -/
def fnNumberSignAndWhiteSpaceCard : Claim7 := { stood := { row := fnNumberSignAndWhiteSpaceRow, standIns := [], harness := (true, "e996dc704682fc1372ac8af4cdc0727e5f865de8f00072e98ee118ec652b3045"), looks := true }, kinds := [], alts := [], laidByText := true, laidKinds := [.data, .data, .data, .data, .sentinel, .sentinel, .pinned, .pinned], laidTests := true, laidLooks := .later }
def FnNumberSignAndWhiteSpaceCardSaid : Prop := Claim7.holds Tryd.pinned (.plain (OpenSpec.ofChange fnNumberSignAndWhiteSpaceSpec)) fnNumberSignAndWhiteSpaceCard

/-- THE TIED CARD OF 'zzlaws_internal_accounts_b1.FnLoginDefsMatchesBackwardScan'. -/
def fnLoginDefsMatchesBackwardScanCard : Claim7 := { stood := { row := fnLoginDefsMatchesBackwardScanRow, standIns := [], harness := (true, "e996dc704682fc1372ac8af4cdc0727e5f865de8f00072e98ee118ec652b3045"), looks := true }, kinds := [], alts := [], laidByText := true, laidKinds := [.data, .listed, .data, .pinned], laidTests := true, laidLooks := .later }
def FnLoginDefsMatchesBackwardScanCardSaid : Prop := Claim7.holds Tryd.pinned (.plain (OpenSpec.ofChange fnLoginDefsMatchesBackwardScanSpec)) fnLoginDefsMatchesBackwardScanCard

/-- THE TIED CARD OF 'zzlaws_internal_accounts_b1.FnLoginDefsAppendedSettingWins'. -/
def fnLoginDefsAppendedSettingWinsCard : Claim7 := { stood := { row := fnLoginDefsAppendedSettingWinsRow, standIns := [], harness := (true, "e996dc704682fc1372ac8af4cdc0727e5f865de8f00072e98ee118ec652b3045"), looks := true }, kinds := [], alts := [], laidByText := true, laidKinds := [.data, .listed, .data, .pinned], laidTests := true, laidLooks := .later }
def FnLoginDefsAppendedSettingWinsCardSaid : Prop := Claim7.holds Tryd.pinned (.plain (OpenSpec.ofChange fnLoginDefsAppendedSettingWinsSpec)) fnLoginDefsAppendedSettingWinsCard

/-- THE TIED CARD OF 'zzlaws_internal_accounts_b1.FnLoginDefsIgnoresCommentsAndBlankLines'. -/
def fnLoginDefsIgnoresCommentsAndBlankLinesCard : Claim7 := { stood := { row := fnLoginDefsIgnoresCommentsAndBlankLinesRow, standIns := [], harness := (true, "e996dc704682fc1372ac8af4cdc0727e5f865de8f00072e98ee118ec652b3045"), looks := true }, kinds := [], alts := [], laidByText := true, laidKinds := [.data, .listed, .data, .pinned], laidTests := true, laidLooks := .later }
def FnLoginDefsIgnoresCommentsAndBlankLinesCardSaid : Prop := Claim7.holds Tryd.pinned (.plain (OpenSpec.ofChange fnLoginDefsIgnoresCommentsAndBlankLinesSpec)) fnLoginDefsIgnoresCommentsAndBlankLinesCard
end Rows
end Go.Proofs.Qxb6600570aDoor
