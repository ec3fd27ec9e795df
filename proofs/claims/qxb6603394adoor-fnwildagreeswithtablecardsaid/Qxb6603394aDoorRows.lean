/-
  NARROWER THAN 'FOR EVERY INPUT', by the rows' own cells (each row's printed sentence says how): FnWildAgreesWithTable: laid · FnWildEscapedMatchesOnlyItself: laid · FnMatchSetAgreesWithWild: laid.
  DERIVED. THE GIVEN ROWS OF THIS SEAT. 3 by the template 'for every input the law returns true; each argument reads behind the call as it read before'; 0 by the template 'total and deterministic' (their statements: Qxb6603394aDoorTotals.lean).
  GIVEN WITH THE SEED: the statements are not yours to turn. If you find one false, say at which input.
  Laid BY PROGRAM, IN A SANDBOX (cutbox-rows.mjs): the forced cells as the released guide's own fill.sh prints them over the translation 53def9894e961b23… (all of the seat's roots in one cut). By AI agents, Wed Nov 11 2026. No macro, syntax, notation, axiom, sorry.
-/
import Derived.Test.Qxb6603394aDoorChecked
import GoSem.PinnedTables
import GoSem.Claim
import GoSem.ClaimJoined
import GoSem.ClaimMapViews
import Derived.JoinedTies
import Derived.KernelRfl
namespace Go.Proofs.Qxb6603394aDoor
/- THE CELL 'sum', in the pinned program and in every row, IS THE sha256 OF THE DUMP (.gsa) THAT Qxb6603394aDoorProg.lean LOADS. Nothing in Lean hashes anything: it is a label: what it is worth is what the hold of that sum in a sandbox is worth. -/
noncomputable def Tryd.pinned : Pinned := { name := "qxb6603394adoor", sum := "53def9894e961b23e04218fa7d3c52e03dd8cc9d8a4f3e5c19980db58971648e", checked := Tryd.checked }
namespace Rows
def none {H : Type} : Left H := { results := [], args := [] }

/- WHAT THE LISTED PACKAGE-LEVEL VARIABLES READ AS WHEN THE CALL BEGINS. Each datum BY PROGRAM (the guide's laid-datum.mjs) off the statement by which the dump's own 'gosem.cut.vars' lays the variable. In a bare row this is a premise. The card (Qxb6603394aDoorCards.lean) ties it to the program's text. -/
def laid_unicode_utf8_acceptRanges {H : Type} : DataW H := .agg [.agg [.lit (.int .u8 128), .lit (.int .u8 191)], .agg [.lit (.int .u8 160), .lit (.int .u8 191)], .agg [.lit (.int .u8 128), .lit (.int .u8 159)], .agg [.lit (.int .u8 144), .lit (.int .u8 191)], .agg [.lit (.int .u8 128), .lit (.int .u8 143)], .agg [.lit (.int .u8 0), .lit (.int .u8 0)], .agg [.lit (.int .u8 0), .lit (.int .u8 0)], .agg [.lit (.int .u8 0), .lit (.int .u8 0)], .agg [.lit (.int .u8 0), .lit (.int .u8 0)], .agg [.lit (.int .u8 0), .lit (.int .u8 0)], .agg [.lit (.int .u8 0), .lit (.int .u8 0)], .agg [.lit (.int .u8 0), .lit (.int .u8 0)], .agg [.lit (.int .u8 0), .lit (.int .u8 0)], .agg [.lit (.int .u8 0), .lit (.int .u8 0)], .agg [.lit (.int .u8 0), .lit (.int .u8 0)], .agg [.lit (.int .u8 0), .lit (.int .u8 0)]]
/-- One of Go's own tables, pinned by name: the form's constant. -/
def laid_unicode_utf8_first : DataW Unit := Go.Pinned.utf8First

/-- 'zzlaws_internal_ignore_b1.FnWildAgreesWithTable': WHATEVER THE INPUT: true; the input reads as it did. -/
def fnWildAgreesWithTableSpec : ChangeSpec := { name := "fnWildAgreesWithTable", fn := fun _ => fun
  | [d1, d2, d3] => { results := [.lit (.bool true)], args := [d1, d2, d3] }
  | _ => none }
def fnWildAgreesWithTableRow : OpenClaim := { program := "qxb6603394adoor", sum := "53def9894e961b23e04218fa7d3c52e03dd8cc9d8a4f3e5c19980db58971648e", func := "example.com/tidemark/tidemark/zzlaws_internal_ignore_b1.FnWildAgreesWithTable", spec := "fnWildAgreesWithTable", inPlace := ["internal/bytealg.IndexByteString", "internal/bytealg.IndexString"], recurses := true, named := ["unicode/utf8.first", "unicode/utf8.acceptRanges", "internal/bytealg.MaxLen"], apart := false, laid := [("unicode/utf8.acceptRanges", laid_unicode_utf8_acceptRanges), ("unicode/utf8.first", laid_unicode_utf8_first)] }
def FnWildAgreesWithTableSaid : Prop := fnWildAgreesWithTableRow.holds Tryd.pinned (OpenSpec.ofChange fnWildAgreesWithTableSpec)

/-- ITS FALSE NEIGHBOUR: 'it returns false'. Refute it at one input. -/
def fnWildAgreesWithTableWrong : ChangeSpec := { name := "fnWildAgreesWithTable", fn := fun _ => fun
  | [d1, d2, d3] => { results := [.lit (.bool false)], args := [d1, d2, d3] }
  | _ => none }
def FnWildAgreesWithTableWrongFalsely : Prop := fnWildAgreesWithTableRow.holds Tryd.pinned (OpenSpec.ofChange fnWildAgreesWithTableWrong)

/-- 'zzlaws_internal_ignore_b1.FnWildEscapedMatchesOnlyItself': WHATEVER THE INPUT: true; the input reads as it did. -/
def fnWildEscapedMatchesOnlyItselfSpec : ChangeSpec := { name := "fnWildEscapedMatchesOnlyItself", fn := fun _ => fun
  | [d1, d2, d3] => { results := [.lit (.bool true)], args := [d1, d2, d3] }
  | _ => none }
def fnWildEscapedMatchesOnlyItselfRow : OpenClaim := { program := "qxb6603394adoor", sum := "53def9894e961b23e04218fa7d3c52e03dd8cc9d8a4f3e5c19980db58971648e", func := "example.com/tidemark/tidemark/zzlaws_internal_ignore_b1.FnWildEscapedMatchesOnlyItself", spec := "fnWildEscapedMatchesOnlyItself", inPlace := ["internal/bytealg.IndexByteString", "internal/bytealg.IndexString"], recurses := true, named := ["unicode/utf8.first", "unicode/utf8.acceptRanges", "internal/bytealg.MaxLen"], apart := false, laid := [("unicode/utf8.acceptRanges", laid_unicode_utf8_acceptRanges), ("unicode/utf8.first", laid_unicode_utf8_first)] }
def FnWildEscapedMatchesOnlyItselfSaid : Prop := fnWildEscapedMatchesOnlyItselfRow.holds Tryd.pinned (OpenSpec.ofChange fnWildEscapedMatchesOnlyItselfSpec)

/-- ITS FALSE NEIGHBOUR: 'it returns false'. Refute it at one input. -/
def fnWildEscapedMatchesOnlyItselfWrong : ChangeSpec := { name := "fnWildEscapedMatchesOnlyItself", fn := fun _ => fun
  | [d1, d2, d3] => { results := [.lit (.bool false)], args := [d1, d2, d3] }
  | _ => none }
def FnWildEscapedMatchesOnlyItselfWrongFalsely : Prop := fnWildEscapedMatchesOnlyItselfRow.holds Tryd.pinned (OpenSpec.ofChange fnWildEscapedMatchesOnlyItselfWrong)

/-- 'zzlaws_internal_ignore_b1.FnMatchSetAgreesWithWild': WHATEVER THE INPUT: true; the input reads as it did. -/
def fnMatchSetAgreesWithWildSpec : ChangeSpec := { name := "fnMatchSetAgreesWithWild", fn := fun _ => fun
  | [d1, d2, d3] => { results := [.lit (.bool true)], args := [d1, d2, d3] }
  | _ => none }
def fnMatchSetAgreesWithWildRow : OpenClaim := { program := "qxb6603394adoor", sum := "53def9894e961b23e04218fa7d3c52e03dd8cc9d8a4f3e5c19980db58971648e", func := "example.com/tidemark/tidemark/zzlaws_internal_ignore_b1.FnMatchSetAgreesWithWild", spec := "fnMatchSetAgreesWithWild", inPlace := ["internal/bytealg.IndexByteString", "internal/bytealg.IndexString"], recurses := true, named := ["unicode/utf8.first", "unicode/utf8.acceptRanges", "internal/bytealg.MaxLen"], apart := false, laid := [("unicode/utf8.acceptRanges", laid_unicode_utf8_acceptRanges), ("unicode/utf8.first", laid_unicode_utf8_first)] }
def FnMatchSetAgreesWithWildSaid : Prop := fnMatchSetAgreesWithWildRow.holds Tryd.pinned (OpenSpec.ofChange fnMatchSetAgreesWithWildSpec)

/-- ITS FALSE NEIGHBOUR: 'it returns false'. Refute it at one input. -/
def fnMatchSetAgreesWithWildWrong : ChangeSpec := { name := "fnMatchSetAgreesWithWild", fn := fun _ => fun
  | [d1, d2, d3] => { results := [.lit (.bool false)], args := [d1, d2, d3] }
  | _ => none }
def FnMatchSetAgreesWithWildWrongFalsely : Prop := fnMatchSetAgreesWithWildRow.holds Tryd.pinned (OpenSpec.ofChange fnMatchSetAgreesWithWildWrong)

end Rows
end Go.Proofs.Qxb6603394aDoor
