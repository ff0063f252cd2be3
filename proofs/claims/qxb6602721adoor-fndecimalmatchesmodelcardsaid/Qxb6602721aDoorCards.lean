/-
  DERIVED. GIVEN WITH THE SEED: THE CARDS: each row of Qxb6602721aDoorRows.lean that lists a variable, with what it lists TIED to the program's text (the seventh form; the later family's looks); each row that meets fmt, with fmt's text TOLD by the authors' own Lean function (tested against real Go, not proved from fmt's source: count such statements apart). THE CARD IS WHAT COUNTS. Prove the row's statement (the work); the ties are given (Qxb6602721aDoorTie.lean); close each card by the builder's one call (the guide's Derived/Test/ToyasCard.lean, 'card_holds'). Laid BY PROGRAM, IN A SANDBOX (cutbox-door.mjs). By AI agents, Wed Nov 11 2026. No macro, syntax, notation, axiom, sorry.
-/
import Derived.Test.Qxb6602721aDoorRows
import GoSem.ClaimSeven
namespace Go.Proofs.Qxb6602721aDoor
namespace Rows

/-- THE TIED CARD OF 'zzlaws_pkg_table_b1.FnDecimalMatchesModel'. -/
def fnDecimalMatchesModelCard : Claim7 := { stood := { row := fnDecimalMatchesModelRow, standIns := [], harness := (true, "a6e19fb5acd56d5f66435532353778cb4950b498484d288e00771cc19da6375a"), looks := false }, kinds := [], alts := [], laidByText := true, laidKinds := [.data, .pinned], laidTests := true, laidLooks := .later }
def FnDecimalMatchesModelCardSaid : Prop := Claim7.holds Tryd.pinned (.plain (OpenSpec.ofChange fnDecimalMatchesModelSpec)) fnDecimalMatchesModelCard

/-- THE TIED CARD OF 'zzlaws_pkg_table_b1.FnDecimalShiftsCompose'. -/
def fnDecimalShiftsComposeCard : Claim7 := { stood := { row := fnDecimalShiftsComposeRow, standIns := [], harness := (true, "a6e19fb5acd56d5f66435532353778cb4950b498484d288e00771cc19da6375a"), looks := false }, kinds := [], alts := [], laidByText := true, laidKinds := [.data, .pinned], laidTests := true, laidLooks := .later }
def FnDecimalShiftsComposeCardSaid : Prop := Claim7.holds Tryd.pinned (.plain (OpenSpec.ofChange fnDecimalShiftsComposeSpec)) fnDecimalShiftsComposeCard
end Rows
end Go.Proofs.Qxb6602721aDoor
