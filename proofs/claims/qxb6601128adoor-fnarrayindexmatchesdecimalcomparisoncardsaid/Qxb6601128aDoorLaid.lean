/-
  FROM THE ROW's LISTED VARIABLES TO WHAT THE WALKS ASK: the cell of strconv.ErrRange holds an interface value. And that the door's own heap meets the list (for the witness).
-/
import Derived.Test.Qxb6601128aDoorRows
import Derived.ProofKit
import Derived.LaidMore
import Derived.LaidSub
import Derived.MakeChecks
import Derived.OpenShut
import Derived.Stop.Joined
import Derived.Stop.LaidErr
import Derived.ShutString
namespace Go.Proofs.Qxb6601128aDoor
open Go.ChangeShapes Go.WideShapes Go.ChangeAt Go.RowKit

theorem own : ownKnob Tryd.prog.godebug = none := by kernel_rfl

/-- The list that both rows bear. -/
abbrev laidL : List (String × DataW Unit) := Rows.fnArrayIndexReadsItsOwnDecimalRow.laid

theorem gER : Tryd.prog.globalNamed "strconv.ErrRange" = some 1 := by kernel_rfl
theorem tER : (Tryd.prog.globals[1]?).map (·.type) = some 32 := by kernel_rfl

theorem iface_cell {enc : TypeId × Value → Unit} {W : World} {base : Nat} {sp : Nat → Bool} {held : Bool} {fuel : Nat} {cs : List Value} {x : DataW Unit × List MemPlace}
    (h : DataW.trod enc Tryd.prog W base sp held fuel 32 cs = some x) : ∃ ev, cs = [ev] ∧ (ev = .nilIface ∨ ∃ te pe, ev = .iface te pe) := by
  cases fuel with
  | zero => simp [DataW.trod] at h
  | succ fuel =>
    unfold DataW.trod at h
    rw [Tryd.underlying32] at h
    split at h
    all_goals first | (rename_i h1; cases h1; done) | skip
    all_goals first | exact ⟨_, rfl, .inl rfl⟩ | exact ⟨_, rfl, .inr ⟨_, _, rfl⟩⟩ | (simp at h)

/-- WHAT THE LIST GIVES THE WALKS. -/
theorem of_laid {W : World} (h : laidMetH Tryd.prog laidL W) : ∃ ev, W.cell? ⟨1, 0, none⟩ = some ev ∧ (ev = .nilIface ∨ ∃ te pe, ev = .iface te pe) := by
  rw [MakeChecks.laidMetH_plain _ _ _ (by kernel_rfl)] at h
  obtain ⟨ps, ⟨g0, t0, cs0, f0, p0, q0, hg0, ht0, hv0, hd0, _, _⟩, _, _⟩ := laidMet.tail (laidMet.tail (laidMet.tail h))
  obtain rfl := Option.some.inj (gER.symm.trans hg0)
  obtain rfl := Option.some.inj (tER.symm.trans ht0)
  obtain ⟨ev, he, hev⟩ := iface_cell hd0
  refine ⟨ev, ?_, hev⟩
  have := World.var?_cell hg0 hv0 0
  obtain ⟨l⟩ := cs0
  simp at he
  subst he
  simpa using this

/-- The door's own heap meets the list. -/
theorem door_met (os : Os) (args : Array Value) : laidMetH Tryd.prog laidL ((World.doorLaid Tryd.prog 400 os).forCall (fun _ _ => 0) ⟨#[], args, []⟩).memory :=
  laidMetH_of_parts3 (fuel := 8) (laidMet_of_run' 8 (by kernel_rfl) (by kernel_rfl)) (by kernel_rfl) (by kernel_rfl)
end Go.Proofs.Qxb6601128aDoor
