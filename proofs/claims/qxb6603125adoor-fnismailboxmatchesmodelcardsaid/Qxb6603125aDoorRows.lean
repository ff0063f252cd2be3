/-
  NARROWER THAN 'FOR EVERY INPUT', by the rows' own cells (each row's printed sentence says how): FnIsDNSNameMatchesModel: laid · FnIsDNSNameWildcardOfHost: laid · FnIsDNSNameIgnoresCase: laid · FnIsMailboxMatchesModel: laid · FnIsMailboxSplitsAtAt: laid · FnIsMailboxIgnoresCase: laid.
  DERIVED. THE GIVEN ROWS OF THIS SEAT. 6 by the template 'for every input the law returns true; each argument reads behind the call as it read before'; 0 by the template 'total and deterministic' (their statements: Qxb6603125aDoorTotals.lean).
  GIVEN WITH THE SEED: the statements are not yours to turn. If you find one false, say at which input.
  Laid BY PROGRAM, IN A SANDBOX (cutbox-rows.mjs): the forced cells as the released guide's own fill.sh prints them over the translation 3f3be420c5e92f44… (all of the seat's roots in one cut). By AI agents, Wed Nov 11 2026. No macro, syntax, notation, axiom, sorry.
-/
import Derived.Test.Qxb6603125aDoorChecked
import GoSem.PinnedTables
import GoSem.Claim
import GoSem.ClaimJoined
import GoSem.ClaimMapViews
import Derived.JoinedTies
import Derived.KernelRfl
namespace Go.Proofs.Qxb6603125aDoor
/- THE CELL 'sum', in the pinned program and in every row, IS THE sha256 OF THE DUMP (.gsa) THAT Qxb6603125aDoorProg.lean LOADS. Nothing in Lean hashes anything: it is a label: what it is worth is what the hold of that sum in a sandbox is worth. -/
noncomputable def Tryd.pinned : Pinned := { name := "qxb6603125adoor", sum := "3f3be420c5e92f44960eeb6216c1f95e4cd4cfdc957e85eae52185bf2abfc80e", checked := Tryd.checked }
namespace Rows
def none {H : Type} : Left H := { results := [], args := [] }

/- WHAT THE LISTED PACKAGE-LEVEL VARIABLES READ AS WHEN THE CALL BEGINS. Each datum BY PROGRAM (the guide's laid-datum.mjs) off the statement by which the dump's own 'gosem.cut.vars' lays the variable. In a bare row this is a premise. The card (Qxb6603125aDoorCards.lean) ties it to the program's text. -/
def laid_unicode_utf8_acceptRanges {H : Type} : DataW H := .agg [.agg [.lit (.int .u8 128), .lit (.int .u8 191)], .agg [.lit (.int .u8 160), .lit (.int .u8 191)], .agg [.lit (.int .u8 128), .lit (.int .u8 159)], .agg [.lit (.int .u8 144), .lit (.int .u8 191)], .agg [.lit (.int .u8 128), .lit (.int .u8 143)], .agg [.lit (.int .u8 0), .lit (.int .u8 0)], .agg [.lit (.int .u8 0), .lit (.int .u8 0)], .agg [.lit (.int .u8 0), .lit (.int .u8 0)], .agg [.lit (.int .u8 0), .lit (.int .u8 0)], .agg [.lit (.int .u8 0), .lit (.int .u8 0)], .agg [.lit (.int .u8 0), .lit (.int .u8 0)], .agg [.lit (.int .u8 0), .lit (.int .u8 0)], .agg [.lit (.int .u8 0), .lit (.int .u8 0)], .agg [.lit (.int .u8 0), .lit (.int .u8 0)], .agg [.lit (.int .u8 0), .lit (.int .u8 0)], .agg [.lit (.int .u8 0), .lit (.int .u8 0)]]
/-- One of Go's own tables, pinned by name: the form's constant. -/
def laid_unicode_utf8_first : DataW Unit := Go.Pinned.utf8First

/-- 'zzlaws_ca_b1.FnIsDNSNameMatchesModel': WHATEVER THE INPUT: true; the input reads as it did. -/
def fnIsDNSNameMatchesModelSpec : ChangeSpec := { name := "fnIsDNSNameMatchesModel", fn := fun _ => fun
  | [d] => { results := [.lit (.bool true)], args := [d] }
  | _ => none }
def fnIsDNSNameMatchesModelRow : OpenClaim := { program := "qxb6603125adoor", sum := "3f3be420c5e92f44960eeb6216c1f95e4cd4cfdc957e85eae52185bf2abfc80e", func := "example.com/trustforge/trustforge/zzlaws_ca_b1.FnIsDNSNameMatchesModel", spec := "fnIsDNSNameMatchesModel", inPlace := ["internal/bytealg.CountString", "internal/bytealg.IndexByteString", "internal/bytealg.IndexString"], named := ["unicode/utf8.first", "unicode/utf8.acceptRanges", "internal/bytealg.MaxLen"], apart := false, laid := [("unicode/utf8.acceptRanges", laid_unicode_utf8_acceptRanges), ("unicode/utf8.first", laid_unicode_utf8_first)] }
def FnIsDNSNameMatchesModelSaid : Prop := fnIsDNSNameMatchesModelRow.holds Tryd.pinned (OpenSpec.ofChange fnIsDNSNameMatchesModelSpec)

/-- ITS FALSE NEIGHBOUR: 'it returns false'. Refute it at one input. -/
def fnIsDNSNameMatchesModelWrong : ChangeSpec := { name := "fnIsDNSNameMatchesModel", fn := fun _ => fun
  | [d] => { results := [.lit (.bool false)], args := [d] }
  | _ => none }
def FnIsDNSNameMatchesModelWrongFalsely : Prop := fnIsDNSNameMatchesModelRow.holds Tryd.pinned (OpenSpec.ofChange fnIsDNSNameMatchesModelWrong)

/-- 'zzlaws_ca_b1.FnIsDNSNameWildcardOfHost': WHATEVER THE INPUT: true; the input reads as it did. -/
def fnIsDNSNameWildcardOfHostSpec : ChangeSpec := { name := "fnIsDNSNameWildcardOfHost", fn := fun _ => fun
  | [d] => { results := [.lit (.bool true)], args := [d] }
  | _ => none }
def fnIsDNSNameWildcardOfHostRow : OpenClaim := { program := "qxb6603125adoor", sum := "3f3be420c5e92f44960eeb6216c1f95e4cd4cfdc957e85eae52185bf2abfc80e", func := "example.com/trustforge/trustforge/zzlaws_ca_b1.FnIsDNSNameWildcardOfHost", spec := "fnIsDNSNameWildcardOfHost", inPlace := ["internal/bytealg.CountString", "internal/bytealg.IndexByteString", "internal/bytealg.IndexString"], named := ["unicode/utf8.first", "unicode/utf8.acceptRanges", "internal/bytealg.MaxLen"], apart := false, laid := [("unicode/utf8.acceptRanges", laid_unicode_utf8_acceptRanges), ("unicode/utf8.first", laid_unicode_utf8_first)] }
def FnIsDNSNameWildcardOfHostSaid : Prop := fnIsDNSNameWildcardOfHostRow.holds Tryd.pinned (OpenSpec.ofChange fnIsDNSNameWildcardOfHostSpec)

/-- ITS FALSE NEIGHBOUR: 'it returns false'. Refute it at one input. -/
def fnIsDNSNameWildcardOfHostWrong : ChangeSpec := { name := "fnIsDNSNameWildcardOfHost", fn := fun _ => fun
  | [d] => { results := [.lit (.bool false)], args := [d] }
  | _ => none }
def FnIsDNSNameWildcardOfHostWrongFalsely : Prop := fnIsDNSNameWildcardOfHostRow.holds Tryd.pinned (OpenSpec.ofChange fnIsDNSNameWildcardOfHostWrong)

/-- 'zzlaws_ca_b1.FnIsDNSNameIgnoresCase': WHATEVER THE INPUT: true; the input reads as it did. -/
def fnIsDNSNameIgnoresCaseSpec : ChangeSpec := { name := "fnIsDNSNameIgnoresCase", fn := fun _ => fun
  | [d] => { results := [.lit (.bool true)], args := [d] }
  | _ => none }
def fnIsDNSNameIgnoresCaseRow : OpenClaim := { program := "qxb6603125adoor", sum := "3f3be420c5e92f44960eeb6216c1f95e4cd4cfdc957e85eae52185bf2abfc80e", func := "example.com/trustforge/trustforge/zzlaws_ca_b1.FnIsDNSNameIgnoresCase", spec := "fnIsDNSNameIgnoresCase", inPlace := ["internal/bytealg.CountString", "internal/bytealg.IndexByteString", "internal/bytealg.IndexString"], named := ["unicode/utf8.first", "unicode/utf8.acceptRanges", "internal/bytealg.MaxLen"], apart := false, laid := [("unicode/utf8.acceptRanges", laid_unicode_utf8_acceptRanges), ("unicode/utf8.first", laid_unicode_utf8_first)] }
def FnIsDNSNameIgnoresCaseSaid : Prop := fnIsDNSNameIgnoresCaseRow.holds Tryd.pinned (OpenSpec.ofChange fnIsDNSNameIgnoresCaseSpec)

/-- ITS FALSE NEIGHBOUR: 'it returns false'. Refute it at one input. -/
def fnIsDNSNameIgnoresCaseWrong : ChangeSpec := { name := "fnIsDNSNameIgnoresCase", fn := fun _ => fun
  | [d] => { results := [.lit (.bool false)], args := [d] }
  | _ => none }
def FnIsDNSNameIgnoresCaseWrongFalsely : Prop := fnIsDNSNameIgnoresCaseRow.holds Tryd.pinned (OpenSpec.ofChange fnIsDNSNameIgnoresCaseWrong)

/-- 'zzlaws_ca_b1.FnIsMailboxMatchesModel': WHATEVER THE INPUT: true; the input reads as it did. -/
def fnIsMailboxMatchesModelSpec : ChangeSpec := { name := "fnIsMailboxMatchesModel", fn := fun _ => fun
  | [d] => { results := [.lit (.bool true)], args := [d] }
  | _ => none }
def fnIsMailboxMatchesModelRow : OpenClaim := { program := "qxb6603125adoor", sum := "3f3be420c5e92f44960eeb6216c1f95e4cd4cfdc957e85eae52185bf2abfc80e", func := "example.com/trustforge/trustforge/zzlaws_ca_b1.FnIsMailboxMatchesModel", spec := "fnIsMailboxMatchesModel", inPlace := ["internal/bytealg.IndexByteString", "internal/bytealg.IndexString", "internal/bytealg.CountString"], named := ["internal/bytealg.MaxLen", "unicode/utf8.first", "unicode/utf8.acceptRanges"], apart := false, laid := [("unicode/utf8.acceptRanges", laid_unicode_utf8_acceptRanges), ("unicode/utf8.first", laid_unicode_utf8_first)] }
def FnIsMailboxMatchesModelSaid : Prop := fnIsMailboxMatchesModelRow.holds Tryd.pinned (OpenSpec.ofChange fnIsMailboxMatchesModelSpec)

/-- ITS FALSE NEIGHBOUR: 'it returns false'. Refute it at one input. -/
def fnIsMailboxMatchesModelWrong : ChangeSpec := { name := "fnIsMailboxMatchesModel", fn := fun _ => fun
  | [d] => { results := [.lit (.bool false)], args := [d] }
  | _ => none }
def FnIsMailboxMatchesModelWrongFalsely : Prop := fnIsMailboxMatchesModelRow.holds Tryd.pinned (OpenSpec.ofChange fnIsMailboxMatchesModelWrong)

/-- 'zzlaws_ca_b1.FnIsMailboxSplitsAtAt': WHATEVER THE INPUT: true; the input reads as it did. -/
def fnIsMailboxSplitsAtAtSpec : ChangeSpec := { name := "fnIsMailboxSplitsAtAt", fn := fun _ => fun
  | [d1, d2] => { results := [.lit (.bool true)], args := [d1, d2] }
  | _ => none }
def fnIsMailboxSplitsAtAtRow : OpenClaim := { program := "qxb6603125adoor", sum := "3f3be420c5e92f44960eeb6216c1f95e4cd4cfdc957e85eae52185bf2abfc80e", func := "example.com/trustforge/trustforge/zzlaws_ca_b1.FnIsMailboxSplitsAtAt", spec := "fnIsMailboxSplitsAtAt", inPlace := ["internal/bytealg.IndexByteString", "internal/bytealg.IndexString", "internal/bytealg.CountString"], named := ["internal/bytealg.MaxLen", "unicode/utf8.first", "unicode/utf8.acceptRanges"], apart := false, laid := [("unicode/utf8.acceptRanges", laid_unicode_utf8_acceptRanges), ("unicode/utf8.first", laid_unicode_utf8_first)] }
def FnIsMailboxSplitsAtAtSaid : Prop := fnIsMailboxSplitsAtAtRow.holds Tryd.pinned (OpenSpec.ofChange fnIsMailboxSplitsAtAtSpec)

/-- ITS FALSE NEIGHBOUR: 'it returns false'. Refute it at one input. -/
def fnIsMailboxSplitsAtAtWrong : ChangeSpec := { name := "fnIsMailboxSplitsAtAt", fn := fun _ => fun
  | [d1, d2] => { results := [.lit (.bool false)], args := [d1, d2] }
  | _ => none }
def FnIsMailboxSplitsAtAtWrongFalsely : Prop := fnIsMailboxSplitsAtAtRow.holds Tryd.pinned (OpenSpec.ofChange fnIsMailboxSplitsAtAtWrong)

/-- 'zzlaws_ca_b1.FnIsMailboxIgnoresCase': WHATEVER THE INPUT: true; the input reads as it did. -/
def fnIsMailboxIgnoresCaseSpec : ChangeSpec := { name := "fnIsMailboxIgnoresCase", fn := fun _ => fun
  | [d] => { results := [.lit (.bool true)], args := [d] }
  | _ => none }
def fnIsMailboxIgnoresCaseRow : OpenClaim := { program := "qxb6603125adoor", sum := "3f3be420c5e92f44960eeb6216c1f95e4cd4cfdc957e85eae52185bf2abfc80e", func := "example.com/trustforge/trustforge/zzlaws_ca_b1.FnIsMailboxIgnoresCase", spec := "fnIsMailboxIgnoresCase", inPlace := ["internal/bytealg.IndexByteString", "internal/bytealg.IndexString", "internal/bytealg.CountString"], named := ["internal/bytealg.MaxLen", "unicode/utf8.first", "unicode/utf8.acceptRanges"], apart := false, laid := [("unicode/utf8.acceptRanges", laid_unicode_utf8_acceptRanges), ("unicode/utf8.first", laid_unicode_utf8_first)] }
def FnIsMailboxIgnoresCaseSaid : Prop := fnIsMailboxIgnoresCaseRow.holds Tryd.pinned (OpenSpec.ofChange fnIsMailboxIgnoresCaseSpec)

/-- ITS FALSE NEIGHBOUR: 'it returns false'. Refute it at one input. -/
def fnIsMailboxIgnoresCaseWrong : ChangeSpec := { name := "fnIsMailboxIgnoresCase", fn := fun _ => fun
  | [d] => { results := [.lit (.bool false)], args := [d] }
  | _ => none }
def FnIsMailboxIgnoresCaseWrongFalsely : Prop := fnIsMailboxIgnoresCaseRow.holds Tryd.pinned (OpenSpec.ofChange fnIsMailboxIgnoresCaseWrong)

end Rows
end Go.Proofs.Qxb6603125aDoor
