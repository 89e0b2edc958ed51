/-
  No cell of these rows narrows 'for every input' (looked for: loops, veiled, ifaces, maps, wideKeys, modest, calm, conditions, laid).
  DERIVED. THE GIVEN ROWS OF THIS SEAT. 6 by the template 'for every input the law returns true; each argument reads behind the call as it read before'; 0 by the template 'total and deterministic' (their statements: Qxb6601128aTotals.lean).
  GIVEN WITH THE SEED: the statements are not yours to turn. If you find one false, say at which input.
  Laid BY PROGRAM, IN A SANDBOX (cutbox-rows.mjs): the forced cells as the released guide's own fill.sh prints them over the translation 533645040c597ff5… (all of the seat's roots in one cut). By AI agents, Wed Nov 11 2026. No macro, syntax, notation, axiom, sorry.
-/
import Derived.Test.Qxb6601128aChecked
import GoSem.Claim
import GoSem.ClaimJoined
import GoSem.ClaimMapViews
import Derived.JoinedTies
import Derived.KernelRfl
namespace Go.Proofs.Qxb6601128a
/- THE CELL 'sum', in the pinned program and in every row, IS THE sha256 OF THE DUMP (.gsa) THAT Qxb6601128aProg.lean LOADS. Nothing in Lean hashes anything: it is a label: what it is worth is what the hold of that sum in a sandbox is worth. -/
noncomputable def Try.pinned : Pinned := { name := "qxb6601128a", sum := "533645040c597ff506d4eb95bbf67ced7c920a472baaea23eefbe1d8d6fb00b3", checked := Try.checked }
namespace Rows
def none {H : Type} : Left H := { results := [], args := [] }

/-- 'zzlaws_rules_b1.FnContainsMatchesNaiveSearch': WHATEVER THE INPUT: true; the input reads as it did. -/
def fnContainsMatchesNaiveSearchSpec : ChangeSpec := { name := "fnContainsMatchesNaiveSearch", fn := fun _ => fun
  | [d1, d2] => { results := [.lit (.bool true)], args := [d1, d2] }
  | _ => none }
def fnContainsMatchesNaiveSearchRow : OpenClaim := { program := "qxb6601128a", sum := "533645040c597ff506d4eb95bbf67ced7c920a472baaea23eefbe1d8d6fb00b3", func := "example.com/toggle-set-server/toggle-set-server/zzlaws_rules_b1.FnContainsMatchesNaiveSearch", spec := "fnContainsMatchesNaiveSearch", inPlace := ["internal/bytealg.IndexByteString", "internal/bytealg.IndexString"], named := ["internal/bytealg.MaxLen"], apart := false }
def FnContainsMatchesNaiveSearchSaid : Prop := fnContainsMatchesNaiveSearchRow.holds Try.pinned (OpenSpec.ofChange fnContainsMatchesNaiveSearchSpec)

/-- ITS FALSE NEIGHBOUR: 'it returns false'. Refute it at one input. -/
def fnContainsMatchesNaiveSearchWrong : ChangeSpec := { name := "fnContainsMatchesNaiveSearch", fn := fun _ => fun
  | [d1, d2] => { results := [.lit (.bool false)], args := [d1, d2] }
  | _ => none }
def FnContainsMatchesNaiveSearchWrongFalsely : Prop := fnContainsMatchesNaiveSearchRow.holds Try.pinned (OpenSpec.ofChange fnContainsMatchesNaiveSearchWrong)

/-- 'zzlaws_rules_b1.FnContainsFindsEmbedded': WHATEVER THE INPUT: true; the input reads as it did. -/
def fnContainsFindsEmbeddedSpec : ChangeSpec := { name := "fnContainsFindsEmbedded", fn := fun _ => fun
  | [d1, d2, d3] => { results := [.lit (.bool true)], args := [d1, d2, d3] }
  | _ => none }
def fnContainsFindsEmbeddedRow : OpenClaim := { program := "qxb6601128a", sum := "533645040c597ff506d4eb95bbf67ced7c920a472baaea23eefbe1d8d6fb00b3", func := "example.com/toggle-set-server/toggle-set-server/zzlaws_rules_b1.FnContainsFindsEmbedded", spec := "fnContainsFindsEmbedded", inPlace := ["internal/bytealg.IndexByteString", "internal/bytealg.IndexString"], named := ["internal/bytealg.MaxLen"], apart := false }
def FnContainsFindsEmbeddedSaid : Prop := fnContainsFindsEmbeddedRow.holds Try.pinned (OpenSpec.ofChange fnContainsFindsEmbeddedSpec)

/-- ITS FALSE NEIGHBOUR: 'it returns false'. Refute it at one input. -/
def fnContainsFindsEmbeddedWrong : ChangeSpec := { name := "fnContainsFindsEmbedded", fn := fun _ => fun
  | [d1, d2, d3] => { results := [.lit (.bool false)], args := [d1, d2, d3] }
  | _ => none }
def FnContainsFindsEmbeddedWrongFalsely : Prop := fnContainsFindsEmbeddedRow.holds Try.pinned (OpenSpec.ofChange fnContainsFindsEmbeddedWrong)

/-- 'zzlaws_rules_b1.FnContainsFindsPieceOfFound': WHATEVER THE INPUT: true; the input reads as it did. -/
def fnContainsFindsPieceOfFoundSpec : ChangeSpec := { name := "fnContainsFindsPieceOfFound", fn := fun _ => fun
  | [d1, d2, d3, d4] => { results := [.lit (.bool true)], args := [d1, d2, d3, d4] }
  | _ => none }
def fnContainsFindsPieceOfFoundRow : OpenClaim := { program := "qxb6601128a", sum := "533645040c597ff506d4eb95bbf67ced7c920a472baaea23eefbe1d8d6fb00b3", func := "example.com/toggle-set-server/toggle-set-server/zzlaws_rules_b1.FnContainsFindsPieceOfFound", spec := "fnContainsFindsPieceOfFound", inPlace := ["internal/bytealg.IndexByteString", "internal/bytealg.IndexString"], named := ["internal/bytealg.MaxLen"], apart := false }
def FnContainsFindsPieceOfFoundSaid : Prop := fnContainsFindsPieceOfFoundRow.holds Try.pinned (OpenSpec.ofChange fnContainsFindsPieceOfFoundSpec)

/-- ITS FALSE NEIGHBOUR: 'it returns false'. Refute it at one input. -/
def fnContainsFindsPieceOfFoundWrong : ChangeSpec := { name := "fnContainsFindsPieceOfFound", fn := fun _ => fun
  | [d1, d2, d3, d4] => { results := [.lit (.bool false)], args := [d1, d2, d3, d4] }
  | _ => none }
def FnContainsFindsPieceOfFoundWrongFalsely : Prop := fnContainsFindsPieceOfFoundRow.holds Try.pinned (OpenSpec.ofChange fnContainsFindsPieceOfFoundWrong)

/-- 'zzlaws_rules_b1.FnDecimalPrefixMatchesAutomaton': WHATEVER THE INPUT: true; the input reads as it did. -/
def fnDecimalPrefixMatchesAutomatonSpec : ChangeSpec := { name := "fnDecimalPrefixMatchesAutomaton", fn := fun _ => fun
  | [d] => { results := [.lit (.bool true)], args := [d] }
  | _ => none }
def fnDecimalPrefixMatchesAutomatonRow : OpenClaim := { program := "qxb6601128a", sum := "533645040c597ff506d4eb95bbf67ced7c920a472baaea23eefbe1d8d6fb00b3", func := "example.com/toggle-set-server/toggle-set-server/zzlaws_rules_b1.FnDecimalPrefixMatchesAutomaton", spec := "fnDecimalPrefixMatchesAutomaton", apart := false }
def FnDecimalPrefixMatchesAutomatonSaid : Prop := fnDecimalPrefixMatchesAutomatonRow.holds Try.pinned (OpenSpec.ofChange fnDecimalPrefixMatchesAutomatonSpec)

/-- ITS FALSE NEIGHBOUR: 'it returns false'. Refute it at one input. -/
def fnDecimalPrefixMatchesAutomatonWrong : ChangeSpec := { name := "fnDecimalPrefixMatchesAutomaton", fn := fun _ => fun
  | [d] => { results := [.lit (.bool false)], args := [d] }
  | _ => none }
def FnDecimalPrefixMatchesAutomatonWrongFalsely : Prop := fnDecimalPrefixMatchesAutomatonRow.holds Try.pinned (OpenSpec.ofChange fnDecimalPrefixMatchesAutomatonWrong)

/-- 'zzlaws_rules_b1.FnDecimalPrefixIsStableOnItsPrefix': WHATEVER THE INPUT: true; the input reads as it did. -/
def fnDecimalPrefixIsStableOnItsPrefixSpec : ChangeSpec := { name := "fnDecimalPrefixIsStableOnItsPrefix", fn := fun _ => fun
  | [d] => { results := [.lit (.bool true)], args := [d] }
  | _ => none }
def fnDecimalPrefixIsStableOnItsPrefixRow : OpenClaim := { program := "qxb6601128a", sum := "533645040c597ff506d4eb95bbf67ced7c920a472baaea23eefbe1d8d6fb00b3", func := "example.com/toggle-set-server/toggle-set-server/zzlaws_rules_b1.FnDecimalPrefixIsStableOnItsPrefix", spec := "fnDecimalPrefixIsStableOnItsPrefix", apart := false }
def FnDecimalPrefixIsStableOnItsPrefixSaid : Prop := fnDecimalPrefixIsStableOnItsPrefixRow.holds Try.pinned (OpenSpec.ofChange fnDecimalPrefixIsStableOnItsPrefixSpec)

/-- ITS FALSE NEIGHBOUR: 'it returns false'. Refute it at one input. -/
def fnDecimalPrefixIsStableOnItsPrefixWrong : ChangeSpec := { name := "fnDecimalPrefixIsStableOnItsPrefix", fn := fun _ => fun
  | [d] => { results := [.lit (.bool false)], args := [d] }
  | _ => none }
def FnDecimalPrefixIsStableOnItsPrefixWrongFalsely : Prop := fnDecimalPrefixIsStableOnItsPrefixRow.holds Try.pinned (OpenSpec.ofChange fnDecimalPrefixIsStableOnItsPrefixWrong)

/-- 'zzlaws_rules_b1.FnDecimalPrefixGrowsWithExtension': WHATEVER THE INPUT: true; the input reads as it did. -/
def fnDecimalPrefixGrowsWithExtensionSpec : ChangeSpec := { name := "fnDecimalPrefixGrowsWithExtension", fn := fun _ => fun
  | [d1, d2] => { results := [.lit (.bool true)], args := [d1, d2] }
  | _ => none }
def fnDecimalPrefixGrowsWithExtensionRow : OpenClaim := { program := "qxb6601128a", sum := "533645040c597ff506d4eb95bbf67ced7c920a472baaea23eefbe1d8d6fb00b3", func := "example.com/toggle-set-server/toggle-set-server/zzlaws_rules_b1.FnDecimalPrefixGrowsWithExtension", spec := "fnDecimalPrefixGrowsWithExtension", apart := false }
def FnDecimalPrefixGrowsWithExtensionSaid : Prop := fnDecimalPrefixGrowsWithExtensionRow.holds Try.pinned (OpenSpec.ofChange fnDecimalPrefixGrowsWithExtensionSpec)

/-- ITS FALSE NEIGHBOUR: 'it returns false'. Refute it at one input. -/
def fnDecimalPrefixGrowsWithExtensionWrong : ChangeSpec := { name := "fnDecimalPrefixGrowsWithExtension", fn := fun _ => fun
  | [d1, d2] => { results := [.lit (.bool false)], args := [d1, d2] }
  | _ => none }
def FnDecimalPrefixGrowsWithExtensionWrongFalsely : Prop := fnDecimalPrefixGrowsWithExtensionRow.holds Try.pinned (OpenSpec.ofChange fnDecimalPrefixGrowsWithExtensionWrong)

end Rows
end Go.Proofs.Qxb6601128a
