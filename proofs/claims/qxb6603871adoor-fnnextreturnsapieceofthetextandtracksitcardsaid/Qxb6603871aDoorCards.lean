/-
  DERIVED. GIVEN WITH THE SEED: THE CARDS: each row of Qxb6603871aDoorRows.lean that lists a variable, with what it lists TIED to the program's text (the seventh form; the later family's looks); each row that meets fmt, with fmt's text TOLD by the authors' own Lean function (tested against real Go, not proved from fmt's source: count such statements apart). THE CARD IS WHAT COUNTS. Prove the row's statement (the work); the ties are given (Qxb6603871aDoorTie.lean); close each card by the builder's one call (the guide's Derived/Test/ToyasCard.lean, 'card_holds'). Laid BY PROGRAM, IN A SANDBOX (cutbox-door.mjs). By AI agents, Wed Nov 11 2026. No macro, syntax, notation, axiom, sorry.
-/
import Derived.Test.Qxb6603871aDoorRows
import GoSem.ClaimSeven
namespace Go.Proofs.Qxb6603871aDoor
namespace Rows

/-- THE TIED CARD OF 'zzlaws_root_b1.FnNextReadsPlainTextAsItsWords'. -/
def fnNextReadsPlainTextAsItsWordsCard : Claim7 := { stood := { row := fnNextReadsPlainTextAsItsWordsRow, standIns := [], harness := (true, "0446e271ba6185f54bc61bc99324e27eadfe87a0908a7f2afa2b92063152687c"), looks := false }, kinds := [], alts := [], laidByText := true, laidKinds := [.data, .data, .data, .pinned, .pinned], laidTests := true, laidLooks := .later }
def FnNextReadsPlainTextAsItsWordsCardSaid : Prop := Claim7.holds Tryd.pinned (.plain (OpenSpec.ofChange fnNextReadsPlainTextAsItsWordsSpec)) fnNextReadsPlainTextAsItsWordsCard

/-- THE TIED CARD OF 'zzlaws_root_b1.FnNextReturnsAPieceOfTheTextAndTracksIt'. -/
def fnNextReturnsAPieceOfTheTextAndTracksItCard : Claim7 := { stood := { row := fnNextReturnsAPieceOfTheTextAndTracksItRow, standIns := [], harness := (true, "0446e271ba6185f54bc61bc99324e27eadfe87a0908a7f2afa2b92063152687c"), looks := false }, kinds := [], alts := [], laidByText := true, laidKinds := [.data, .data, .data, .pinned, .pinned], laidTests := true, laidLooks := .later }
def FnNextReturnsAPieceOfTheTextAndTracksItCardSaid : Prop := Claim7.holds Tryd.pinned (.plain (OpenSpec.ofChange fnNextReturnsAPieceOfTheTextAndTracksItSpec)) fnNextReturnsAPieceOfTheTextAndTracksItCard

/-- THE TIED CARD OF 'zzlaws_root_b1.FnTrackIsBlindToTheCaseOfItsWord'. -/
def fnTrackIsBlindToTheCaseOfItsWordCard : Claim7 := { stood := { row := fnTrackIsBlindToTheCaseOfItsWordRow, standIns := [], harness := (true, "0446e271ba6185f54bc61bc99324e27eadfe87a0908a7f2afa2b92063152687c"), looks := false }, kinds := [], alts := [], laidByText := true, laidKinds := [.data, .data, .data, .pinned, .pinned], laidTests := true, laidLooks := .later }
def FnTrackIsBlindToTheCaseOfItsWordCardSaid : Prop := Claim7.holds Tryd.pinned (.plain (OpenSpec.ofChange fnTrackIsBlindToTheCaseOfItsWordSpec)) fnTrackIsBlindToTheCaseOfItsWordCard

/-- THE TIED CARD OF 'zzlaws_root_b1.FnTrackMovesOnlyTheStatementFields'. -/
def fnTrackMovesOnlyTheStatementFieldsCard : Claim7 := { stood := { row := fnTrackMovesOnlyTheStatementFieldsRow, standIns := [], harness := (true, "0446e271ba6185f54bc61bc99324e27eadfe87a0908a7f2afa2b92063152687c"), looks := false }, kinds := [], alts := [], laidByText := true, laidKinds := [.data, .data, .data, .pinned, .pinned], laidTests := true, laidLooks := .later }
def FnTrackMovesOnlyTheStatementFieldsCardSaid : Prop := Claim7.holds Tryd.pinned (.plain (OpenSpec.ofChange fnTrackMovesOnlyTheStatementFieldsSpec)) fnTrackMovesOnlyTheStatementFieldsCard

/-- THE TIED CARD OF 'zzlaws_root_b1.FnTrackScriptKnowsHowAStatementOpens'. -/
def fnTrackScriptKnowsHowAStatementOpensCard : Claim7 := { stood := { row := fnTrackScriptKnowsHowAStatementOpensRow, standIns := [], harness := (true, "0446e271ba6185f54bc61bc99324e27eadfe87a0908a7f2afa2b92063152687c"), looks := false }, kinds := [], alts := [], laidByText := true, laidKinds := [.data, .data, .data, .pinned, .pinned], laidTests := true, laidLooks := .later }
def FnTrackScriptKnowsHowAStatementOpensCardSaid : Prop := Claim7.holds Tryd.pinned (.plain (OpenSpec.ofChange fnTrackScriptKnowsHowAStatementOpensSpec)) fnTrackScriptKnowsHowAStatementOpensCard
end Rows
end Go.Proofs.Qxb6603871aDoor
