/-
  NARROWER THAN 'FOR EVERY INPUT', by the rows' own cells (each row's printed sentence says how): FnToServerMatchesAWalkFromTheLineStart: laid · FnToServerReadsOnlyItsOwnLine: laid.
  DERIVED. THE GIVEN ROWS OF THIS SEAT. 2 by the template 'for every input the law returns true; each argument reads behind the call as it read before'; 0 by the template 'total and deterministic' (their statements: Qxb6614461aFmtTotals.lean).
  GIVEN WITH THE SEED: the statements are not yours to turn. If you find one false, say at which input.
  Laid BY PROGRAM, IN A SANDBOX (cutbox-rows.mjs): the forced cells as the released guide's own fill.sh prints them over the translation 6b37024d900e49d2… (all of the seat's roots in one cut). By AI agents, Wed Nov 11 2026. No macro, syntax, notation, axiom, sorry.
-/
import Derived.Test.Qxb6614461aFmtChecked
import GoSem.PinnedTables
import GoSem.Claim
import GoSem.ClaimJoined
import GoSem.ClaimMapViews
import Derived.JoinedTies
import Derived.KernelRfl
namespace Go.Proofs.Qxb6614461aFmt
/- THE CELL 'sum', in the pinned program and in every row, IS THE sha256 OF THE DUMP (.gsa) THAT Qxb6614461aFmtProg.lean LOADS. Nothing in Lean hashes anything: it is a label: what it is worth is what the hold of that sum in a sandbox is worth. -/
noncomputable def Tryf.pinned : Pinned := { name := "qxb6614461afmt", sum := "6b37024d900e49d2578356334dfbb06615b17f696f3f876a94cfc133c19f3550", checked := Tryf.checked }
namespace Rows
def none {H : Type} : Left H := { results := [], args := [] }

/- WHAT THE LISTED PACKAGE-LEVEL VARIABLES READ AS WHEN THE CALL BEGINS. Each datum BY PROGRAM (the guide's laid-datum.mjs) off the statement by which the dump's own 'gosem.cut.vars' lays the variable. In a bare row this is a premise. The card (Qxb6614461aFmtCards.lean) ties it to the program's text. -/
def laid_unicode_utf8_acceptRanges {H : Type} : DataW H := .agg [.agg [.lit (.int .u8 128), .lit (.int .u8 191)], .agg [.lit (.int .u8 160), .lit (.int .u8 191)], .agg [.lit (.int .u8 128), .lit (.int .u8 159)], .agg [.lit (.int .u8 144), .lit (.int .u8 191)], .agg [.lit (.int .u8 128), .lit (.int .u8 143)], .agg [.lit (.int .u8 0), .lit (.int .u8 0)], .agg [.lit (.int .u8 0), .lit (.int .u8 0)], .agg [.lit (.int .u8 0), .lit (.int .u8 0)], .agg [.lit (.int .u8 0), .lit (.int .u8 0)], .agg [.lit (.int .u8 0), .lit (.int .u8 0)], .agg [.lit (.int .u8 0), .lit (.int .u8 0)], .agg [.lit (.int .u8 0), .lit (.int .u8 0)], .agg [.lit (.int .u8 0), .lit (.int .u8 0)], .agg [.lit (.int .u8 0), .lit (.int .u8 0)], .agg [.lit (.int .u8 0), .lit (.int .u8 0)], .agg [.lit (.int .u8 0), .lit (.int .u8 0)]]
/-- One of Go's own tables, pinned by name: the form's constant. -/
def laid_unicode_utf8_first : DataW Unit := Go.Pinned.utf8First

/-- 'zzlaws_position_b1.FnToServerMatchesAWalkFromTheLineStart': WHATEVER THE INPUT: true; the input reads as it did. -/
def fnToServerMatchesAWalkFromTheLineStartSpec : ChangeSpec := { name := "fnToServerMatchesAWalkFromTheLineStart", fn := fun _ => fun
  | [d1, d2, d3, d4, d5] => { results := [.lit (.bool true)], args := [d1, d2, d3, d4, d5] }
  | _ => none }
def fnToServerMatchesAWalkFromTheLineStartRow : OpenClaim := { program := "qxb6614461afmt", sum := "6b37024d900e49d2578356334dfbb06615b17f696f3f876a94cfc133c19f3550", func := "example.com/forerun/forerun/zzlaws_position_b1.FnToServerMatchesAWalkFromTheLineStart", spec := "fnToServerMatchesAWalkFromTheLineStart", stops := ["fmt.errorf"], inPlace := ["fmt.errorf"], unfollowed := true, recurses := true, named := ["unicode/utf8.first", "unicode/utf8.acceptRanges"], apart := false, laid := [("unicode/utf8.acceptRanges", laid_unicode_utf8_acceptRanges), ("unicode/utf8.first", laid_unicode_utf8_first)] }
/-- NO THEOREM (fmt's text is open here; it may be false): for the released tool's asking of the row's closed facts alone. THE STATEMENT IS 'FnToServerMatchesAWalkFromTheLineStartToldSaid' (Qxb6614461aFmtCards.lean). -/
def FnToServerMatchesAWalkFromTheLineStartFormAsk : Prop := fnToServerMatchesAWalkFromTheLineStartRow.holds Tryf.pinned (OpenSpec.ofChange fnToServerMatchesAWalkFromTheLineStartSpec)

/-- ITS FALSE NEIGHBOUR: 'it returns false'. Refute it at one input. -/
def fnToServerMatchesAWalkFromTheLineStartWrong : ChangeSpec := { name := "fnToServerMatchesAWalkFromTheLineStart", fn := fun _ => fun
  | [d1, d2, d3, d4, d5] => { results := [.lit (.bool false)], args := [d1, d2, d3, d4, d5] }
  | _ => none }
def FnToServerMatchesAWalkFromTheLineStartWrongFormAsk : Prop := fnToServerMatchesAWalkFromTheLineStartRow.holds Tryf.pinned (OpenSpec.ofChange fnToServerMatchesAWalkFromTheLineStartWrong)

/-- 'zzlaws_position_b1.FnToServerReadsOnlyItsOwnLine': WHATEVER THE INPUT: true; the input reads as it did. -/
def fnToServerReadsOnlyItsOwnLineSpec : ChangeSpec := { name := "fnToServerReadsOnlyItsOwnLine", fn := fun _ => fun
  | [d1, d2, d3, d4, d5] => { results := [.lit (.bool true)], args := [d1, d2, d3, d4, d5] }
  | _ => none }
def fnToServerReadsOnlyItsOwnLineRow : OpenClaim := { program := "qxb6614461afmt", sum := "6b37024d900e49d2578356334dfbb06615b17f696f3f876a94cfc133c19f3550", func := "example.com/forerun/forerun/zzlaws_position_b1.FnToServerReadsOnlyItsOwnLine", spec := "fnToServerReadsOnlyItsOwnLine", stops := ["fmt.errorf"], inPlace := ["fmt.errorf"], unfollowed := true, recurses := true, named := ["unicode/utf8.first", "unicode/utf8.acceptRanges"], apart := false, laid := [("unicode/utf8.acceptRanges", laid_unicode_utf8_acceptRanges), ("unicode/utf8.first", laid_unicode_utf8_first)] }
/-- NO THEOREM (fmt's text is open here; it may be false): for the released tool's asking of the row's closed facts alone. THE STATEMENT IS 'FnToServerReadsOnlyItsOwnLineToldSaid' (Qxb6614461aFmtCards.lean). -/
def FnToServerReadsOnlyItsOwnLineFormAsk : Prop := fnToServerReadsOnlyItsOwnLineRow.holds Tryf.pinned (OpenSpec.ofChange fnToServerReadsOnlyItsOwnLineSpec)

/-- ITS FALSE NEIGHBOUR: 'it returns false'. Refute it at one input. -/
def fnToServerReadsOnlyItsOwnLineWrong : ChangeSpec := { name := "fnToServerReadsOnlyItsOwnLine", fn := fun _ => fun
  | [d1, d2, d3, d4, d5] => { results := [.lit (.bool false)], args := [d1, d2, d3, d4, d5] }
  | _ => none }
def FnToServerReadsOnlyItsOwnLineWrongFormAsk : Prop := fnToServerReadsOnlyItsOwnLineRow.holds Tryf.pinned (OpenSpec.ofChange fnToServerReadsOnlyItsOwnLineWrong)

end Rows
end Go.Proofs.Qxb6614461aFmt
