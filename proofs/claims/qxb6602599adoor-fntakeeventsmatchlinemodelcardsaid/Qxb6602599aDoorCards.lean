/-
  DERIVED. GIVEN WITH THE SEED: THE CARDS: each row of Qxb6602599aDoorRows.lean that lists a variable, with what it lists TIED to the program's text (the seventh form; the later family's looks); each row that meets fmt, with fmt's text TOLD by the authors' own Lean function (tested against real Go, not proved from fmt's source: count such statements apart). THE CARD IS WHAT COUNTS. Prove the row's statement (the work); the ties are given (Qxb6602599aDoorTie.lean); close each card by the builder's one call (the guide's Derived/Test/ToyasCard.lean, 'card_holds'). Laid BY PROGRAM, IN A SANDBOX (cutbox-door.mjs). By AI agents, Wed Nov 11 2026. No macro, syntax, notation, axiom, sorry.
-/
import Derived.Test.Qxb6602599aDoorRows
import GoSem.ClaimSeven
namespace Go.Proofs.Qxb6602599aDoor
namespace Rows

/-- THE TIED CARD OF 'zzlaws_pkg_sse_b1.FnTakeEventsMatchLineModel'. -/
def fnTakeEventsMatchLineModelCard : Claim7 := { stood := { row := fnTakeEventsMatchLineModelRow, standIns := [], harness := (true, "7312b09c2556c66e188e29a0c377a522cc26342d7ab2d111638c484642c9c124"), looks := false }, kinds := [], alts := [], laidByText := true, laidKinds := [.data, .pinned], laidTests := true, laidLooks := .later }
def FnTakeEventsMatchLineModelCardSaid : Prop := Claim7.holds Tryd.pinned (.plain (OpenSpec.ofChange fnTakeEventsMatchLineModelSpec)) fnTakeEventsMatchLineModelCard

/-- THE TIED CARD OF 'zzlaws_pkg_sse_b1.FnTakeInTwoPiecesAgreesWithWhole'. -/
def fnTakeInTwoPiecesAgreesWithWholeCard : Claim7 := { stood := { row := fnTakeInTwoPiecesAgreesWithWholeRow, standIns := [], harness := (true, "7312b09c2556c66e188e29a0c377a522cc26342d7ab2d111638c484642c9c124"), looks := false }, kinds := [], alts := [], laidByText := true, laidKinds := [.data, .pinned], laidTests := true, laidLooks := .later }
def FnTakeInTwoPiecesAgreesWithWholeCardSaid : Prop := Claim7.holds Tryd.pinned (.plain (OpenSpec.ofChange fnTakeInTwoPiecesAgreesWithWholeSpec)) fnTakeInTwoPiecesAgreesWithWholeCard
end Rows
end Go.Proofs.Qxb6602599aDoor
