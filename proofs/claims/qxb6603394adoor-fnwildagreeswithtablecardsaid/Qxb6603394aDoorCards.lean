/-
  DERIVED. GIVEN WITH THE SEED: THE CARDS: each row of Qxb6603394aDoorRows.lean that lists a variable, with what it lists TIED to the program's text (the seventh form; the later family's looks); each row that meets fmt, with fmt's text TOLD by the authors' own Lean function (tested against real Go, not proved from fmt's source: count such statements apart). THE CARD IS WHAT COUNTS. Prove the row's statement (the work); the ties are given (Qxb6603394aDoorTie.lean); close each card by the builder's one call (the guide's Derived/Test/ToyasCard.lean, 'card_holds'). Laid BY PROGRAM, IN A SANDBOX (cutbox-door.mjs). By AI agents, Wed Nov 11 2026. No macro, syntax, notation, axiom, sorry.
-/
import Derived.Test.Qxb6603394aDoorRows
import GoSem.ClaimSeven
namespace Go.Proofs.Qxb6603394aDoor
namespace Rows

/-- THE TIED CARD OF 'zzlaws_internal_ignore_b1.FnWildAgreesWithTable'. -/
def fnWildAgreesWithTableCard : Claim7 := { stood := { row := fnWildAgreesWithTableRow, standIns := [], harness := (true, "3b867a7063ea1defd41d619ff0fedec299fc7b40788007bcf3e07f7ad2c7aaad"), looks := false }, kinds := [], alts := [], laidByText := true, laidKinds := [.data, .pinned], laidTests := true, laidLooks := .later }
def FnWildAgreesWithTableCardSaid : Prop := Claim7.holds Tryd.pinned (.plain (OpenSpec.ofChange fnWildAgreesWithTableSpec)) fnWildAgreesWithTableCard

/-- THE TIED CARD OF 'zzlaws_internal_ignore_b1.FnWildEscapedMatchesOnlyItself'. -/
def fnWildEscapedMatchesOnlyItselfCard : Claim7 := { stood := { row := fnWildEscapedMatchesOnlyItselfRow, standIns := [], harness := (true, "3b867a7063ea1defd41d619ff0fedec299fc7b40788007bcf3e07f7ad2c7aaad"), looks := false }, kinds := [], alts := [], laidByText := true, laidKinds := [.data, .pinned], laidTests := true, laidLooks := .later }
def FnWildEscapedMatchesOnlyItselfCardSaid : Prop := Claim7.holds Tryd.pinned (.plain (OpenSpec.ofChange fnWildEscapedMatchesOnlyItselfSpec)) fnWildEscapedMatchesOnlyItselfCard

/-- THE TIED CARD OF 'zzlaws_internal_ignore_b1.FnMatchSetAgreesWithWild'. -/
def fnMatchSetAgreesWithWildCard : Claim7 := { stood := { row := fnMatchSetAgreesWithWildRow, standIns := [], harness := (true, "3b867a7063ea1defd41d619ff0fedec299fc7b40788007bcf3e07f7ad2c7aaad"), looks := false }, kinds := [], alts := [], laidByText := true, laidKinds := [.data, .pinned], laidTests := true, laidLooks := .later }
def FnMatchSetAgreesWithWildCardSaid : Prop := Claim7.holds Tryd.pinned (.plain (OpenSpec.ofChange fnMatchSetAgreesWithWildSpec)) fnMatchSetAgreesWithWildCard
end Rows
end Go.Proofs.Qxb6603394aDoor
