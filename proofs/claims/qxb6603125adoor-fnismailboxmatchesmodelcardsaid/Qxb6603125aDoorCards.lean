/-
  DERIVED. GIVEN WITH THE SEED: THE CARDS: each row of Qxb6603125aDoorRows.lean that lists a variable, with what it lists TIED to the program's text (the seventh form; the later family's looks); each row that meets fmt, with fmt's text TOLD by the authors' own Lean function (tested against real Go, not proved from fmt's source: count such statements apart). THE CARD IS WHAT COUNTS. Prove the row's statement (the work); the ties are given (Qxb6603125aDoorTie.lean); close each card by the builder's one call (the guide's Derived/Test/ToyasCard.lean, 'card_holds'). Laid BY PROGRAM, IN A SANDBOX (cutbox-door.mjs). By AI agents, Wed Nov 11 2026. No macro, syntax, notation, axiom, sorry.
-/
import Derived.Test.Qxb6603125aDoorRows
import GoSem.ClaimSeven
namespace Go.Proofs.Qxb6603125aDoor
namespace Rows

/-- THE TIED CARD OF 'zzlaws_ca_b1.FnIsDNSNameMatchesModel'. -/
def fnIsDNSNameMatchesModelCard : Claim7 := { stood := { row := fnIsDNSNameMatchesModelRow, standIns := [], harness := (true, "c0fddf8475845785aa5f877e4247f1f88170241bdacb84bdb795a112bb812aab"), looks := false }, kinds := [], alts := [], laidByText := true, laidKinds := [.data, .pinned], laidTests := true, laidLooks := .later }
def FnIsDNSNameMatchesModelCardSaid : Prop := Claim7.holds Tryd.pinned (.plain (OpenSpec.ofChange fnIsDNSNameMatchesModelSpec)) fnIsDNSNameMatchesModelCard

/-- THE TIED CARD OF 'zzlaws_ca_b1.FnIsDNSNameWildcardOfHost'. -/
def fnIsDNSNameWildcardOfHostCard : Claim7 := { stood := { row := fnIsDNSNameWildcardOfHostRow, standIns := [], harness := (true, "c0fddf8475845785aa5f877e4247f1f88170241bdacb84bdb795a112bb812aab"), looks := false }, kinds := [], alts := [], laidByText := true, laidKinds := [.data, .pinned], laidTests := true, laidLooks := .later }
def FnIsDNSNameWildcardOfHostCardSaid : Prop := Claim7.holds Tryd.pinned (.plain (OpenSpec.ofChange fnIsDNSNameWildcardOfHostSpec)) fnIsDNSNameWildcardOfHostCard

/-- THE TIED CARD OF 'zzlaws_ca_b1.FnIsDNSNameIgnoresCase'. -/
def fnIsDNSNameIgnoresCaseCard : Claim7 := { stood := { row := fnIsDNSNameIgnoresCaseRow, standIns := [], harness := (true, "c0fddf8475845785aa5f877e4247f1f88170241bdacb84bdb795a112bb812aab"), looks := false }, kinds := [], alts := [], laidByText := true, laidKinds := [.data, .pinned], laidTests := true, laidLooks := .later }
def FnIsDNSNameIgnoresCaseCardSaid : Prop := Claim7.holds Tryd.pinned (.plain (OpenSpec.ofChange fnIsDNSNameIgnoresCaseSpec)) fnIsDNSNameIgnoresCaseCard

/-- THE TIED CARD OF 'zzlaws_ca_b1.FnIsMailboxMatchesModel'. -/
def fnIsMailboxMatchesModelCard : Claim7 := { stood := { row := fnIsMailboxMatchesModelRow, standIns := [], harness := (true, "c0fddf8475845785aa5f877e4247f1f88170241bdacb84bdb795a112bb812aab"), looks := false }, kinds := [], alts := [], laidByText := true, laidKinds := [.data, .pinned], laidTests := true, laidLooks := .later }
def FnIsMailboxMatchesModelCardSaid : Prop := Claim7.holds Tryd.pinned (.plain (OpenSpec.ofChange fnIsMailboxMatchesModelSpec)) fnIsMailboxMatchesModelCard

/-- THE TIED CARD OF 'zzlaws_ca_b1.FnIsMailboxSplitsAtAt'. -/
def fnIsMailboxSplitsAtAtCard : Claim7 := { stood := { row := fnIsMailboxSplitsAtAtRow, standIns := [], harness := (true, "c0fddf8475845785aa5f877e4247f1f88170241bdacb84bdb795a112bb812aab"), looks := false }, kinds := [], alts := [], laidByText := true, laidKinds := [.data, .pinned], laidTests := true, laidLooks := .later }
def FnIsMailboxSplitsAtAtCardSaid : Prop := Claim7.holds Tryd.pinned (.plain (OpenSpec.ofChange fnIsMailboxSplitsAtAtSpec)) fnIsMailboxSplitsAtAtCard

/-- THE TIED CARD OF 'zzlaws_ca_b1.FnIsMailboxIgnoresCase'. -/
def fnIsMailboxIgnoresCaseCard : Claim7 := { stood := { row := fnIsMailboxIgnoresCaseRow, standIns := [], harness := (true, "c0fddf8475845785aa5f877e4247f1f88170241bdacb84bdb795a112bb812aab"), looks := false }, kinds := [], alts := [], laidByText := true, laidKinds := [.data, .pinned], laidTests := true, laidLooks := .later }
def FnIsMailboxIgnoresCaseCardSaid : Prop := Claim7.holds Tryd.pinned (.plain (OpenSpec.ofChange fnIsMailboxIgnoresCaseSpec)) fnIsMailboxIgnoresCaseCard
end Rows
end Go.Proofs.Qxb6603125aDoor
