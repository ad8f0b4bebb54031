/-
  NARROWER THAN 'FOR EVERY INPUT', by the rows' own cells (each row's printed sentence says how): FnGlobChildOneNodePerKey: laid · FnGlobChildOrderFreeAndUnshared: laid.
  DERIVED. THE GIVEN ROWS OF THIS SEAT. 2 by the template 'for every input the law returns true; each argument reads behind the call as it read before'; 0 by the template 'total and deterministic' (their statements: Qxb6606410aDoorTotals.lean).
  GIVEN WITH THE SEED: the statements are not yours to turn. If you find one false, say at which input.
  Laid BY PROGRAM, IN A SANDBOX (cutbox-rows.mjs): the forced cells as the released guide's own fill.sh prints them over the translation 7b278e26ad871c8f… (all of the seat's roots in one cut). By AI agents, Wed Nov 11 2026. No macro, syntax, notation, axiom, sorry.
-/
import Derived.Test.Qxb6606410aDoorChecked
import GoSem.PinnedTables
import GoSem.Claim
import GoSem.ClaimJoined
import GoSem.ClaimMapViews
import Derived.JoinedTies
import Derived.KernelRfl
namespace Go.Proofs.Qxb6606410aDoor
/- THE CELL 'sum', in the pinned program and in every row, IS THE sha256 OF THE DUMP (.gsa) THAT Qxb6606410aDoorProg.lean LOADS. Nothing in Lean hashes anything: it is a label: what it is worth is what the hold of that sum in a sandbox is worth. -/
noncomputable def Tryd.pinned : Pinned := { name := "qxb6606410adoor", sum := "7b278e26ad871c8f605d8344cd97462816ee7fe7e4445c7110c54622e99c04dc", checked := Tryd.checked }
namespace Rows
def none {H : Type} : Left H := { results := [], args := [] }

/- WHAT THE LISTED PACKAGE-LEVEL VARIABLES READ AS WHEN THE CALL BEGINS. Each datum BY PROGRAM (the guide's laid-datum.mjs) off the statement by which the dump's own 'gosem.cut.vars' lays the variable. In a bare row this is a premise. The card (Qxb6606410aDoorCards.lean) ties it to the program's text. -/
def laid_unicode_utf8_acceptRanges {H : Type} : DataW H := .agg [.agg [.lit (.int .u8 128), .lit (.int .u8 191)], .agg [.lit (.int .u8 160), .lit (.int .u8 191)], .agg [.lit (.int .u8 128), .lit (.int .u8 159)], .agg [.lit (.int .u8 144), .lit (.int .u8 191)], .agg [.lit (.int .u8 128), .lit (.int .u8 143)], .agg [.lit (.int .u8 0), .lit (.int .u8 0)], .agg [.lit (.int .u8 0), .lit (.int .u8 0)], .agg [.lit (.int .u8 0), .lit (.int .u8 0)], .agg [.lit (.int .u8 0), .lit (.int .u8 0)], .agg [.lit (.int .u8 0), .lit (.int .u8 0)], .agg [.lit (.int .u8 0), .lit (.int .u8 0)], .agg [.lit (.int .u8 0), .lit (.int .u8 0)], .agg [.lit (.int .u8 0), .lit (.int .u8 0)], .agg [.lit (.int .u8 0), .lit (.int .u8 0)], .agg [.lit (.int .u8 0), .lit (.int .u8 0)], .agg [.lit (.int .u8 0), .lit (.int .u8 0)]]
/-- One of Go's own tables, pinned by name: the form's constant. -/
def laid_unicode_utf8_first : DataW Unit := Go.Pinned.utf8First

/-- 'zzlaws_event_b1.FnGlobChildOneNodePerKey': WHATEVER THE INPUT: true; the input reads as it did. -/
def fnGlobChildOneNodePerKeySpec : ChangeSpec := { name := "fnGlobChildOneNodePerKey", fn := fun _ => fun
  | [d] => { results := [.lit (.bool true)], args := [d] }
  | _ => none }
def fnGlobChildOneNodePerKeyRow : OpenClaim := { program := "qxb6606410adoor", sum := "7b278e26ad871c8f605d8344cd97462816ee7fe7e4445c7110c54622e99c04dc", func := "example.com/tripline/tripline/zzlaws_event_b1.FnGlobChildOneNodePerKey", spec := "fnGlobChildOneNodePerKey", inPlace := ["internal/bytealg.CountString", "internal/bytealg.IndexByteString", "internal/bytealg.IndexString", "internal/bytealg.IndexByte"], unfollowed := true, recurses := true, named := ["unicode/utf8.first", "unicode/utf8.acceptRanges", "internal/bytealg.MaxLen"], apart := false, laid := [("unicode/utf8.acceptRanges", laid_unicode_utf8_acceptRanges), ("unicode/utf8.first", laid_unicode_utf8_first)] }
def FnGlobChildOneNodePerKeySaid : Prop := fnGlobChildOneNodePerKeyRow.holds Tryd.pinned (OpenSpec.ofChange fnGlobChildOneNodePerKeySpec)

/-- ITS FALSE NEIGHBOUR: 'it returns false'. Refute it at one input. -/
def fnGlobChildOneNodePerKeyWrong : ChangeSpec := { name := "fnGlobChildOneNodePerKey", fn := fun _ => fun
  | [d] => { results := [.lit (.bool false)], args := [d] }
  | _ => none }
def FnGlobChildOneNodePerKeyWrongFalsely : Prop := fnGlobChildOneNodePerKeyRow.holds Tryd.pinned (OpenSpec.ofChange fnGlobChildOneNodePerKeyWrong)

/-- 'zzlaws_event_b1.FnGlobChildOrderFreeAndUnshared': WHATEVER THE INPUT: true; the input reads as it did. -/
def fnGlobChildOrderFreeAndUnsharedSpec : ChangeSpec := { name := "fnGlobChildOrderFreeAndUnshared", fn := fun _ => fun
  | [d] => { results := [.lit (.bool true)], args := [d] }
  | _ => none }
def fnGlobChildOrderFreeAndUnsharedRow : OpenClaim := { program := "qxb6606410adoor", sum := "7b278e26ad871c8f605d8344cd97462816ee7fe7e4445c7110c54622e99c04dc", func := "example.com/tripline/tripline/zzlaws_event_b1.FnGlobChildOrderFreeAndUnshared", spec := "fnGlobChildOrderFreeAndUnshared", inPlace := ["internal/bytealg.CountString", "internal/bytealg.IndexByteString", "internal/bytealg.IndexString", "internal/bytealg.IndexByte"], unfollowed := true, recurses := true, named := ["unicode/utf8.first", "unicode/utf8.acceptRanges", "internal/bytealg.MaxLen"], apart := false, laid := [("unicode/utf8.acceptRanges", laid_unicode_utf8_acceptRanges), ("unicode/utf8.first", laid_unicode_utf8_first)] }
def FnGlobChildOrderFreeAndUnsharedSaid : Prop := fnGlobChildOrderFreeAndUnsharedRow.holds Tryd.pinned (OpenSpec.ofChange fnGlobChildOrderFreeAndUnsharedSpec)

/-- ITS FALSE NEIGHBOUR: 'it returns false'. Refute it at one input. -/
def fnGlobChildOrderFreeAndUnsharedWrong : ChangeSpec := { name := "fnGlobChildOrderFreeAndUnshared", fn := fun _ => fun
  | [d] => { results := [.lit (.bool false)], args := [d] }
  | _ => none }
def FnGlobChildOrderFreeAndUnsharedWrongFalsely : Prop := fnGlobChildOrderFreeAndUnsharedRow.holds Tryd.pinned (OpenSpec.ofChange fnGlobChildOrderFreeAndUnsharedWrong)

end Rows
end Go.Proofs.Qxb6606410aDoor
