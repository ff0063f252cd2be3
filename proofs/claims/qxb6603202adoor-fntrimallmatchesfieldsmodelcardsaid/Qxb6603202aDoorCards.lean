/-
  DERIVED. GIVEN WITH THE SEED: THE CARDS: each row of Qxb6603202aDoorRows.lean that lists a variable, with what it lists TIED to the program's text (the seventh form; the later family's looks); each row that meets fmt, with fmt's text TOLD by the authors' own Lean function (tested against real Go, not proved from fmt's source: count such statements apart). THE CARD IS WHAT COUNTS. Prove the row's statement (the work); the ties are given (Qxb6603202aDoorTie.lean); close each card by the builder's one call (the guide's Derived/Test/ToyasCard.lean, 'card_holds'). Laid BY PROGRAM, IN A SANDBOX (cutbox-door.mjs). By AI agents, Wed Nov 11 2026. No macro, syntax, notation, axiom, sorry.
-/
import Derived.Test.Qxb6603202aDoorRows
import GoSem.ClaimSeven
namespace Go.Proofs.Qxb6603202aDoor
namespace Rows

/-- THE TIED CARD OF 'zzlaws_internal_sigv4_b1.FnTrimAllMatchesFieldsModel'. -/
def fnTrimAllMatchesFieldsModelCard : Claim7 := { stood := { row := fnTrimAllMatchesFieldsModelRow, standIns := [], harness := (true, "a75f54f1dcf102c842bdc761c36a7f4332da3ac26e04abec0082918580388dee"), looks := false }, kinds := [], alts := [], laidByText := true, laidKinds := [.data, .listed, .data, .pinned], laidTests := true, laidLooks := .later }
def FnTrimAllMatchesFieldsModelCardSaid : Prop := Claim7.holds Tryd.pinned (.plain (OpenSpec.ofChange fnTrimAllMatchesFieldsModelSpec)) fnTrimAllMatchesFieldsModelCard

/-- THE TIED CARD OF 'zzlaws_internal_sigv4_b1.FnTrimAllIdempotent'. -/
def fnTrimAllIdempotentCard : Claim7 := { stood := { row := fnTrimAllIdempotentRow, standIns := [], harness := (true, "a75f54f1dcf102c842bdc761c36a7f4332da3ac26e04abec0082918580388dee"), looks := false }, kinds := [], alts := [], laidByText := true, laidKinds := [.data, .listed, .data, .pinned], laidTests := true, laidLooks := .later }
def FnTrimAllIdempotentCardSaid : Prop := Claim7.holds Tryd.pinned (.plain (OpenSpec.ofChange fnTrimAllIdempotentSpec)) fnTrimAllIdempotentCard
end Rows
end Go.Proofs.Qxb6603202aDoor
