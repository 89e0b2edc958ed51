/-
  DERIVED. GIVEN WITH THE SEED: THE CARDS: each row of Qxb6601128aDoorRows.lean that lists a variable, with what it lists TIED to the program's text (the seventh form; the later family's looks); each row that meets fmt, with fmt's text TOLD by the authors' own Lean function (tested against real Go, not proved from fmt's source: count such statements apart). THE CARD IS WHAT COUNTS. Prove the row's statement (the work); the ties are given (Qxb6601128aDoorTie.lean); close each card by the builder's one call (the guide's Derived/Test/ToyasCard.lean, 'card_holds'). Laid BY PROGRAM, IN A SANDBOX (cutbox-door.mjs). By AI agents, Wed Nov 11 2026. No macro, syntax, notation, axiom, sorry.
-/
import Derived.Test.Qxb6601128aDoorRows
import GoSem.ClaimSeven
namespace Go.Proofs.Qxb6601128aDoor
namespace Rows

/-- THE TIED CARD OF 'zzlaws_rules_b1.FnArrayIndexReadsItsOwnDecimal'. -/
def fnArrayIndexReadsItsOwnDecimalCard : Claim7 := { stood := { row := fnArrayIndexReadsItsOwnDecimalRow, standIns := [], harness := (true, "f9efc78a844218617b3ebaaead61a5e2a2cfa70ae93450f7c15f2246867f8a11"), looks := true }, kinds := [], alts := [], laidByText := true, laidKinds := [.data, .data, .data, .sentinel, .sentinel], laidTests := true, laidLooks := .later }
def FnArrayIndexReadsItsOwnDecimalCardSaid : Prop := Claim7.holds Tryd.pinned (.plain (OpenSpec.ofChange fnArrayIndexReadsItsOwnDecimalSpec)) fnArrayIndexReadsItsOwnDecimalCard

/-- THE TIED CARD OF 'zzlaws_rules_b1.FnArrayIndexMatchesDecimalComparison'. -/
def fnArrayIndexMatchesDecimalComparisonCard : Claim7 := { stood := { row := fnArrayIndexMatchesDecimalComparisonRow, standIns := [], harness := (true, "f9efc78a844218617b3ebaaead61a5e2a2cfa70ae93450f7c15f2246867f8a11"), looks := true }, kinds := [], alts := [], laidByText := true, laidKinds := [.data, .data, .data, .sentinel, .sentinel], laidTests := true, laidLooks := .later }
def FnArrayIndexMatchesDecimalComparisonCardSaid : Prop := Claim7.holds Tryd.pinned (.plain (OpenSpec.ofChange fnArrayIndexMatchesDecimalComparisonSpec)) fnArrayIndexMatchesDecimalComparisonCard

/-- THE TIED CARD OF 'zzlaws_rules_b1.FnArrayIndexKeepsIndexForLongerArrays'. -/
def fnArrayIndexKeepsIndexForLongerArraysCard : Claim7 := { stood := { row := fnArrayIndexKeepsIndexForLongerArraysRow, standIns := [], harness := (true, "f9efc78a844218617b3ebaaead61a5e2a2cfa70ae93450f7c15f2246867f8a11"), looks := true }, kinds := [], alts := [], laidByText := true, laidKinds := [.data, .data, .data, .sentinel, .sentinel], laidTests := true, laidLooks := .later }
def FnArrayIndexKeepsIndexForLongerArraysCardSaid : Prop := Claim7.holds Tryd.pinned (.plain (OpenSpec.ofChange fnArrayIndexKeepsIndexForLongerArraysSpec)) fnArrayIndexKeepsIndexForLongerArraysCard
end Rows
end Go.Proofs.Qxb6601128aDoor
