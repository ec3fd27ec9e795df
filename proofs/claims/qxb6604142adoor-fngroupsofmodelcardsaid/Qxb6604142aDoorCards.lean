/-
  DERIVED. GIVEN WITH THE SEED: THE CARDS: each row of Qxb6604142aDoorRows.lean that lists a variable, with what it lists TIED to the program's text (the seventh form; the later family's looks); each row that meets fmt, with fmt's text TOLD by the authors' own Lean function (tested against real Go, not proved from fmt's source: count such statements apart). THE CARD IS WHAT COUNTS. Prove the row's statement (the work); the ties are given (Qxb6604142aDoorTie.lean); close each card by the builder's one call (the guide's Derived/Test/ToyasCard.lean, 'card_holds'). Laid BY PROGRAM, IN A SANDBOX (cutbox-door.mjs). By AI agents, Wed Nov 11 2026. No macro, syntax, notation, axiom, sorry.
-/
import Derived.Test.Qxb6604142aDoorRows
import GoSem.ClaimSeven
namespace Go.Proofs.Qxb6604142aDoor
namespace Rows

/-- THE TIED CARD OF 'zzlaws_internal_results_b1.FnGroupsOfModel'. -/
def fnGroupsOfModelCard : Claim7 := { stood := { row := fnGroupsOfModelRow, standIns := [], harness := (true, "afe3956ab08858b3aaaac237f623e637ebd279462b1f71e1b00c7a97e061a069"), looks := false }, kinds := [], alts := [], laidByText := true, laidKinds := [.data, .pinned], laidTests := true, laidLooks := .later }
def FnGroupsOfModelCardSaid : Prop := Claim7.holds Tryd.pinned (.plain (OpenSpec.ofChange fnGroupsOfModelSpec)) fnGroupsOfModelCard
end Rows
end Go.Proofs.Qxb6604142aDoor
