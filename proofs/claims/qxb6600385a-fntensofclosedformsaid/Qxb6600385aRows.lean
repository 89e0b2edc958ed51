/-
  No cell of these rows narrows 'for every input' (looked for: loops, veiled, ifaces, maps, wideKeys, modest, calm, conditions, laid).
  DERIVED. THE GIVEN ROWS OF THIS SEAT. 6 by the template 'for every input the law returns true; each argument reads behind the call as it read before'; 0 by the template 'total and deterministic' (their statements: Qxb6600385aTotals.lean).
  GIVEN WITH THE SEED: the statements are not yours to turn. If you find one false, say at which input.
  Laid BY PROGRAM, IN A SANDBOX (cutbox-rows.mjs): the forced cells as the released guide's own fill.sh prints them over the translation e380fb16aa5074fe… (all of the seat's roots in one cut). By AI agents, Wed Nov 11 2026. No macro, syntax, notation, axiom, sorry.
-/
import Derived.Test.Qxb6600385aChecked
import GoSem.Claim
import GoSem.ClaimJoined
import GoSem.ClaimMapViews
import Derived.JoinedTies
import Derived.KernelRfl
namespace Go.Proofs.Qxb6600385a
/- THE CELL 'sum', in the pinned program and in every row, IS THE sha256 OF THE DUMP (.gsa) THAT Qxb6600385aProg.lean LOADS. Nothing in Lean hashes anything: it is a label: what it is worth is what the hold of that sum in a sandbox is worth. -/
noncomputable def Try.pinned : Pinned := { name := "qxb6600385a", sum := "e380fb16aa5074fe5897ffe599db29301ee6883759d2ee371af95fd91b99d240", checked := Try.checked }
namespace Rows
def none {H : Type} : Left H := { results := [], args := [] }

/-- 'zzlaws_root_b1.FnTensOfClosedForm': WHATEVER THE INPUT: true; the input reads as it did. -/
def fnTensOfClosedFormSpec : ChangeSpec := { name := "fnTensOfClosedForm", fn := fun _ => fun
  | [d1, d2] => { results := [.lit (.bool true)], args := [d1, d2] }
  | _ => none }
def fnTensOfClosedFormRow : OpenClaim := { program := "qxb6600385a", sum := "e380fb16aa5074fe5897ffe599db29301ee6883759d2ee371af95fd91b99d240", func := "example.com/exactum/exactum/zzlaws_root_b1.FnTensOfClosedForm", spec := "fnTensOfClosedForm", apart := false }
def FnTensOfClosedFormSaid : Prop := fnTensOfClosedFormRow.holds Try.pinned (OpenSpec.ofChange fnTensOfClosedFormSpec)

/-- ITS FALSE NEIGHBOUR: 'it returns false'. Refute it at one input. -/
def fnTensOfClosedFormWrong : ChangeSpec := { name := "fnTensOfClosedForm", fn := fun _ => fun
  | [d1, d2] => { results := [.lit (.bool false)], args := [d1, d2] }
  | _ => none }
def FnTensOfClosedFormWrongFalsely : Prop := fnTensOfClosedFormRow.holds Try.pinned (OpenSpec.ofChange fnTensOfClosedFormWrong)

/-- 'zzlaws_root_b1.FnTensOfMonotone': WHATEVER THE INPUT: true; the input reads as it did. -/
def fnTensOfMonotoneSpec : ChangeSpec := { name := "fnTensOfMonotone", fn := fun _ => fun
  | [d1, d2, d3] => { results := [.lit (.bool true)], args := [d1, d2, d3] }
  | _ => none }
def fnTensOfMonotoneRow : OpenClaim := { program := "qxb6600385a", sum := "e380fb16aa5074fe5897ffe599db29301ee6883759d2ee371af95fd91b99d240", func := "example.com/exactum/exactum/zzlaws_root_b1.FnTensOfMonotone", spec := "fnTensOfMonotone", apart := false }
def FnTensOfMonotoneSaid : Prop := fnTensOfMonotoneRow.holds Try.pinned (OpenSpec.ofChange fnTensOfMonotoneSpec)

/-- ITS FALSE NEIGHBOUR: 'it returns false'. Refute it at one input. -/
def fnTensOfMonotoneWrong : ChangeSpec := { name := "fnTensOfMonotone", fn := fun _ => fun
  | [d1, d2, d3] => { results := [.lit (.bool false)], args := [d1, d2, d3] }
  | _ => none }
def FnTensOfMonotoneWrongFalsely : Prop := fnTensOfMonotoneRow.holds Try.pinned (OpenSpec.ofChange fnTensOfMonotoneWrong)

/-- 'zzlaws_root_b1.FnStringMatchesModel': WHATEVER THE INPUT: true; the input reads as it did. -/
def fnStringMatchesModelSpec : ChangeSpec := { name := "fnStringMatchesModel", fn := fun _ => fun
  | [d1, d2, d3] => { results := [.lit (.bool true)], args := [d1, d2, d3] }
  | _ => none }
def fnStringMatchesModelRow : OpenClaim := { program := "qxb6600385a", sum := "e380fb16aa5074fe5897ffe599db29301ee6883759d2ee371af95fd91b99d240", func := "example.com/exactum/exactum/zzlaws_root_b1.FnStringMatchesModel", spec := "fnStringMatchesModel", apart := false }
def FnStringMatchesModelSaid : Prop := fnStringMatchesModelRow.holds Try.pinned (OpenSpec.ofChange fnStringMatchesModelSpec)

/-- ITS FALSE NEIGHBOUR: 'it returns false'. Refute it at one input. -/
def fnStringMatchesModelWrong : ChangeSpec := { name := "fnStringMatchesModel", fn := fun _ => fun
  | [d1, d2, d3] => { results := [.lit (.bool false)], args := [d1, d2, d3] }
  | _ => none }
def FnStringMatchesModelWrongFalsely : Prop := fnStringMatchesModelRow.holds Try.pinned (OpenSpec.ofChange fnStringMatchesModelWrong)

/-- 'zzlaws_root_b1.FnStringInjective': WHATEVER THE INPUT: true; the input reads as it did. -/
def fnStringInjectiveSpec : ChangeSpec := { name := "fnStringInjective", fn := fun _ => fun
  | [d1, d2, d3, d4, d5, d6] => { results := [.lit (.bool true)], args := [d1, d2, d3, d4, d5, d6] }
  | _ => none }
def fnStringInjectiveRow : OpenClaim := { program := "qxb6600385a", sum := "e380fb16aa5074fe5897ffe599db29301ee6883759d2ee371af95fd91b99d240", func := "example.com/exactum/exactum/zzlaws_root_b1.FnStringInjective", spec := "fnStringInjective", apart := false }
def FnStringInjectiveSaid : Prop := fnStringInjectiveRow.holds Try.pinned (OpenSpec.ofChange fnStringInjectiveSpec)

/-- ITS FALSE NEIGHBOUR: 'it returns false'. Refute it at one input. -/
def fnStringInjectiveWrong : ChangeSpec := { name := "fnStringInjective", fn := fun _ => fun
  | [d1, d2, d3, d4, d5, d6] => { results := [.lit (.bool false)], args := [d1, d2, d3, d4, d5, d6] }
  | _ => none }
def FnStringInjectiveWrongFalsely : Prop := fnStringInjectiveRow.holds Try.pinned (OpenSpec.ofChange fnStringInjectiveWrong)

/-- 'zzlaws_root_b1.FnStringOrdersLikeCoef': WHATEVER THE INPUT: true; the input reads as it did. -/
def fnStringOrdersLikeCoefSpec : ChangeSpec := { name := "fnStringOrdersLikeCoef", fn := fun _ => fun
  | [d1, d2, d3] => { results := [.lit (.bool true)], args := [d1, d2, d3] }
  | _ => none }
def fnStringOrdersLikeCoefRow : OpenClaim := { program := "qxb6600385a", sum := "e380fb16aa5074fe5897ffe599db29301ee6883759d2ee371af95fd91b99d240", func := "example.com/exactum/exactum/zzlaws_root_b1.FnStringOrdersLikeCoef", spec := "fnStringOrdersLikeCoef", apart := false }
def FnStringOrdersLikeCoefSaid : Prop := fnStringOrdersLikeCoefRow.holds Try.pinned (OpenSpec.ofChange fnStringOrdersLikeCoefSpec)

/-- ITS FALSE NEIGHBOUR: 'it returns false'. Refute it at one input. -/
def fnStringOrdersLikeCoefWrong : ChangeSpec := { name := "fnStringOrdersLikeCoef", fn := fun _ => fun
  | [d1, d2, d3] => { results := [.lit (.bool false)], args := [d1, d2, d3] }
  | _ => none }
def FnStringOrdersLikeCoefWrongFalsely : Prop := fnStringOrdersLikeCoefRow.holds Try.pinned (OpenSpec.ofChange fnStringOrdersLikeCoefWrong)

/-- 'zzlaws_root_b1.FnTextWritesModelAtTail': WHATEVER THE INPUT: true; the input reads as it did. -/
def fnTextWritesModelAtTailSpec : ChangeSpec := { name := "fnTextWritesModelAtTail", fn := fun _ => fun
  | [d1, d2, d3, d4] => { results := [.lit (.bool true)], args := [d1, d2, d3, d4] }
  | _ => none }
def fnTextWritesModelAtTailRow : OpenClaim := { program := "qxb6600385a", sum := "e380fb16aa5074fe5897ffe599db29301ee6883759d2ee371af95fd91b99d240", func := "example.com/exactum/exactum/zzlaws_root_b1.FnTextWritesModelAtTail", spec := "fnTextWritesModelAtTail", apart := false }
def FnTextWritesModelAtTailSaid : Prop := fnTextWritesModelAtTailRow.holds Try.pinned (OpenSpec.ofChange fnTextWritesModelAtTailSpec)

/-- ITS FALSE NEIGHBOUR: 'it returns false'. Refute it at one input. -/
def fnTextWritesModelAtTailWrong : ChangeSpec := { name := "fnTextWritesModelAtTail", fn := fun _ => fun
  | [d1, d2, d3, d4] => { results := [.lit (.bool false)], args := [d1, d2, d3, d4] }
  | _ => none }
def FnTextWritesModelAtTailWrongFalsely : Prop := fnTextWritesModelAtTailRow.holds Try.pinned (OpenSpec.ofChange fnTextWritesModelAtTailWrong)

end Rows
end Go.Proofs.Qxb6600385a
