/-
  NARROWER THAN 'FOR EVERY INPUT', by the rows' own cells (each row's printed sentence says how): FnTakeEventsMatchLineModel: laid · FnTakeInTwoPiecesAgreesWithWhole: laid.
  DERIVED. THE GIVEN ROWS OF THIS SEAT. 2 by the template 'for every input the law returns true; each argument reads behind the call as it read before'; 0 by the template 'total and deterministic' (their statements: Qxb6602599aDoorTotals.lean).
  GIVEN WITH THE SEED: the statements are not yours to turn. If you find one false, say at which input.
  Laid BY PROGRAM, IN A SANDBOX (cutbox-rows.mjs): the forced cells as the released guide's own fill.sh prints them over the translation 87808a13b2c2d060… (all of the seat's roots in one cut). By AI agents, Wed Nov 11 2026. No macro, syntax, notation, axiom, sorry.
-/
import Derived.Test.Qxb6602599aDoorChecked
import GoSem.PinnedTables
import GoSem.Claim
import GoSem.ClaimJoined
import GoSem.ClaimMapViews
import Derived.JoinedTies
import Derived.KernelRfl
namespace Go.Proofs.Qxb6602599aDoor
/- THE CELL 'sum', in the pinned program and in every row, IS THE sha256 OF THE DUMP (.gsa) THAT Qxb6602599aDoorProg.lean LOADS. Nothing in Lean hashes anything: it is a label: what it is worth is what the hold of that sum in a sandbox is worth. -/
noncomputable def Tryd.pinned : Pinned := { name := "qxb6602599adoor", sum := "87808a13b2c2d060dedac7c7000cc90b7f08d34ed0c2f397806e302bf4e7226d", checked := Tryd.checked }
namespace Rows
def none {H : Type} : Left H := { results := [], args := [] }

/- WHAT THE LISTED PACKAGE-LEVEL VARIABLES READ AS WHEN THE CALL BEGINS. Each datum BY PROGRAM (the guide's laid-datum.mjs) off the statement by which the dump's own 'gosem.cut.vars' lays the variable. In a bare row this is a premise. The card (Qxb6602599aDoorCards.lean) ties it to the program's text. -/
def laid_unicode_utf8_acceptRanges {H : Type} : DataW H := .agg [.agg [.lit (.int .u8 128), .lit (.int .u8 191)], .agg [.lit (.int .u8 160), .lit (.int .u8 191)], .agg [.lit (.int .u8 128), .lit (.int .u8 159)], .agg [.lit (.int .u8 144), .lit (.int .u8 191)], .agg [.lit (.int .u8 128), .lit (.int .u8 143)], .agg [.lit (.int .u8 0), .lit (.int .u8 0)], .agg [.lit (.int .u8 0), .lit (.int .u8 0)], .agg [.lit (.int .u8 0), .lit (.int .u8 0)], .agg [.lit (.int .u8 0), .lit (.int .u8 0)], .agg [.lit (.int .u8 0), .lit (.int .u8 0)], .agg [.lit (.int .u8 0), .lit (.int .u8 0)], .agg [.lit (.int .u8 0), .lit (.int .u8 0)], .agg [.lit (.int .u8 0), .lit (.int .u8 0)], .agg [.lit (.int .u8 0), .lit (.int .u8 0)], .agg [.lit (.int .u8 0), .lit (.int .u8 0)], .agg [.lit (.int .u8 0), .lit (.int .u8 0)]]
/-- One of Go's own tables, pinned by name: the form's constant. -/
def laid_unicode_utf8_first : DataW Unit := Go.Pinned.utf8First

/-- 'zzlaws_pkg_sse_b1.FnTakeEventsMatchLineModel': WHATEVER THE INPUT: true; the input reads as it did. -/
def fnTakeEventsMatchLineModelSpec : ChangeSpec := { name := "fnTakeEventsMatchLineModel", fn := fun _ => fun
  | [d] => { results := [.lit (.bool true)], args := [d] }
  | _ => none }
def fnTakeEventsMatchLineModelRow : OpenClaim := { program := "qxb6602599adoor", sum := "87808a13b2c2d060dedac7c7000cc90b7f08d34ed0c2f397806e302bf4e7226d", func := "example.com/limpet/limpet/zzlaws_pkg_sse_b1.FnTakeEventsMatchLineModel", spec := "fnTakeEventsMatchLineModel", inPlace := ["internal/bytealg.IndexByteString", "internal/bytealg.IndexByte", "internal/bytealg.Index", "internal/bytealg.IndexString"], named := ["internal/bytealg.MaxLen", "unicode/utf8.first", "unicode/utf8.acceptRanges"], apart := false, laid := [("unicode/utf8.acceptRanges", laid_unicode_utf8_acceptRanges), ("unicode/utf8.first", laid_unicode_utf8_first)] }
def FnTakeEventsMatchLineModelSaid : Prop := fnTakeEventsMatchLineModelRow.holds Tryd.pinned (OpenSpec.ofChange fnTakeEventsMatchLineModelSpec)

/-- ITS FALSE NEIGHBOUR: 'it returns false'. Refute it at one input. -/
def fnTakeEventsMatchLineModelWrong : ChangeSpec := { name := "fnTakeEventsMatchLineModel", fn := fun _ => fun
  | [d] => { results := [.lit (.bool false)], args := [d] }
  | _ => none }
def FnTakeEventsMatchLineModelWrongFalsely : Prop := fnTakeEventsMatchLineModelRow.holds Tryd.pinned (OpenSpec.ofChange fnTakeEventsMatchLineModelWrong)

/-- 'zzlaws_pkg_sse_b1.FnTakeInTwoPiecesAgreesWithWhole': WHATEVER THE INPUT: true; the input reads as it did. -/
def fnTakeInTwoPiecesAgreesWithWholeSpec : ChangeSpec := { name := "fnTakeInTwoPiecesAgreesWithWhole", fn := fun _ => fun
  | [d1, d2] => { results := [.lit (.bool true)], args := [d1, d2] }
  | _ => none }
def fnTakeInTwoPiecesAgreesWithWholeRow : OpenClaim := { program := "qxb6602599adoor", sum := "87808a13b2c2d060dedac7c7000cc90b7f08d34ed0c2f397806e302bf4e7226d", func := "example.com/limpet/limpet/zzlaws_pkg_sse_b1.FnTakeInTwoPiecesAgreesWithWhole", spec := "fnTakeInTwoPiecesAgreesWithWhole", inPlace := ["internal/bytealg.IndexByteString", "internal/bytealg.IndexByte", "internal/bytealg.Index", "internal/bytealg.IndexString"], named := ["internal/bytealg.MaxLen", "unicode/utf8.first", "unicode/utf8.acceptRanges"], apart := false, laid := [("unicode/utf8.acceptRanges", laid_unicode_utf8_acceptRanges), ("unicode/utf8.first", laid_unicode_utf8_first)] }
def FnTakeInTwoPiecesAgreesWithWholeSaid : Prop := fnTakeInTwoPiecesAgreesWithWholeRow.holds Tryd.pinned (OpenSpec.ofChange fnTakeInTwoPiecesAgreesWithWholeSpec)

/-- ITS FALSE NEIGHBOUR: 'it returns false'. Refute it at one input. -/
def fnTakeInTwoPiecesAgreesWithWholeWrong : ChangeSpec := { name := "fnTakeInTwoPiecesAgreesWithWhole", fn := fun _ => fun
  | [d1, d2] => { results := [.lit (.bool false)], args := [d1, d2] }
  | _ => none }
def FnTakeInTwoPiecesAgreesWithWholeWrongFalsely : Prop := fnTakeInTwoPiecesAgreesWithWholeRow.holds Tryd.pinned (OpenSpec.ofChange fnTakeInTwoPiecesAgreesWithWholeWrong)

end Rows
end Go.Proofs.Qxb6602599aDoor
