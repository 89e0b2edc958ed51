/-
  THE BUFFER of seat b6601128aD: a row of bytes in the heap ('Holds', 'putRow': the kit's Derived/Sort/Row.lean) that is filled from its end ('Tail') or from its head ('Head'). By hand.
-/
import Derived.Test.Qxb6601128aDoorPlain
import Derived.Sort.Grow
import Derived.Deep.Draws
import Derived.RowKit3
import Derived.Below
import Derived.Laws.NewBlocks
namespace Go.Proofs.Qxb6601128aDoor
open Go.Sort Go.RowKit

/-- A byte as the model's value. -/
def enc (b : UInt8) : Value := .int .u8 (b.toNat : Int)

/-- The bytes 'acc' fill dk from place i to its end; ahead of i it is d0. -/
structure Tail (d0 dk : Array UInt8) (i : Nat) (acc : List UInt8) : Prop where
  size : dk.size = d0.size
  at_ : i + acc.length = d0.size
  done : ∀ t, dk[t]? = if t < i then d0[t]? else acc[t - i]?

theorem Tail.start (d0 : Array UInt8) : Tail d0 d0 d0.size [] :=
  ⟨rfl, by simp, fun t => by split; rfl; simp; omega⟩

theorem Tail.step {d0 dk : Array UInt8} {i : Nat} {acc : List UInt8} (h : Tail d0 dk (i + 1) acc) (x : UInt8) : Tail d0 (dk.setIfInBounds i x) i (x :: acc) := by
  have h1 := h.size
  have h2 := h.at_
  refine ⟨by simp [h1], by simp; omega, fun t => ?_⟩
  rw [Array.getElem?_setIfInBounds]
  by_cases e : i = t
  · subst e
    rw [if_pos rfl, if_pos (by omega)]
    simp
  · rw [if_neg e, h.done t]
    by_cases l : t < i
    · rw [if_pos (by omega), if_pos l]
    · rw [if_neg (by omega), if_neg l, show t - i = (t - (i + 1)) + 1 by omega, List.getElem?_cons_succ]

theorem Tail.down {d0 dk : Array UInt8} {i : Nat} {acc : List UInt8} (h : Tail d0 dk i acc) (hi : 1 ≤ i) (x : UInt8) : Tail d0 (dk.setIfInBounds (i - 1) x) (i - 1) (x :: acc) :=
  Tail.step (by rw [Nat.sub_add_cancel hi]; exact h) x

theorem Tail.step2 {d0 dk : Array UInt8} {i : Nat} {acc : List UInt8} (h : Tail d0 dk (i + 2) acc) (x y : UInt8) : Tail d0 ((dk.setIfInBounds i x).setIfInBounds (i + 1) y) i (x :: y :: acc) := by
  have e : (dk.setIfInBounds i x).setIfInBounds (i + 1) y = (dk.setIfInBounds (i + 1) y).setIfInBounds i x := by
    apply Array.ext_getElem?
    intro k
    simp only [Array.getElem?_setIfInBounds, Array.size_setIfInBounds]
    by_cases e1 : i + 1 = k
    · subst e1; simp
    · simp [e1]
  rw [e]
  exact (Tail.step (i := i + 1) h y).step x

theorem Tail.low {d0 dk : Array UInt8} {i : Nat} {acc : List UInt8} (h : Tail d0 dk i acc) (t : Nat) (ht : t < i) : dk[t]! = d0[t]! := by
  have := h.done t
  rw [if_pos ht] at this
  rw [Array.getElem!_eq_getD, Array.getElem!_eq_getD, Array.getD_eq_getD_getElem?, Array.getD_eq_getD_getElem?, this]

theorem Tail.high {d0 dk : Array UInt8} {i : Nat} {acc : List UInt8} (h : Tail d0 dk i acc) : dk.toList.drop i = acc := by
  apply List.ext_getElem?
  intro k
  have := h.done (i + k)
  rw [if_neg (by omega), show i + k - i = k by omega] at this
  rw [List.getElem?_drop, Array.getElem?_toList, this]

/-! ### The world -/

theorem store1 (w : World) (blk : Nat) (d : Array UInt8) (q i : Nat) (x : UInt8) (hi : i < d.size) :
    ((putRow enc w blk 0 d).drewN q).setCell ⟨blk, i, none⟩ (enc x) = (putRow enc w blk 0 (d.setIfInBounds i x)).drewN q := by
  have := putRow_set enc w blk 0 d i x hi
  rw [Nat.zero_add] at this
  rw [← this]
  rfl

theorem put_put (w : World) (blk : Nat) (d d' : Array UInt8) (q r : Nat) (h : d'.size = d.size) :
    (putRow enc ((putRow enc w blk 0 d).drewN q) blk 0 d').drewN r = (putRow enc w blk 0 d').drewN (q + r) := by
  have := putRow_putRow enc w blk 0 d d' h
  rw [← this]
  show ((putRow enc (putRow enc w blk 0 d) blk 0 d').drewN q).drewN r = _
  exact World.drewN_drewN _ _ _

theorem holds_now {w : World} {blk : Nat} {d0 d : Array UInt8} (q : Nat) (h : Holds enc w blk 0 d0) (hs : d.size = d0.size) : Holds enc ((putRow enc w blk 0 d).drewN q) blk 0 d :=
  holds_putRow enc w blk 0 d0 d h hs

/-- Each cell of the row: it is there, and may be written. -/
theorem row_cell {w : World} {blk : Nat} {d : Array UInt8} (h : Holds enc w blk 0 d) (t : Nat) (ht : t < d.size) : w.cell? ⟨blk, t, none⟩ = some (.int .u8 (d[t]!.toNat : Int)) := by
  simpa [enc] using (h t ht).1
theorem row_free {w : World} {blk : Nat} {d : Array UInt8} (h : Holds enc w blk 0 d) (t : Nat) (ht : t < d.size) : w.frozen? ⟨blk, t, none⟩ = false := by
  simpa using (h t ht).2

/-- A fresh block of bytes. -/
theorem holds_fresh (w : World) (d : Array UInt8) (t : TypeId) (n : Nat) (hn : n = w.heap.size) : Holds enc (w.alloc (.cells (d.map enc) t)) n 0 d := fun j hj => by
  refine ⟨?_, World.frozen?_alloc_at _ _ _ _ hn⟩
  rw [World.cell?_alloc_at _ _ _ _ hn, Nat.zero_add, Array.getElem?_map, Array.getElem?_eq_getElem hj, getElem!_pos d j hj]
  rfl

theorem grown_putRow {W w' : World} (h : Grown W w') {blk : Nat} (hb : W.heap.size ≤ blk) (off : Nat) (d : Array UInt8) : Grown W (putRow enc w' blk off d) := by
  obtain ⟨h1, h2, h3⟩ := h
  refine ⟨⟨h1.1, h1.2.1, fun i hi => ?_⟩, fun a => by rw [frozen?_putRow]; exact h2 a, by simpa using h3⟩
  have e : (putRow enc w' blk off d).heap[i]? = w'.heap[i]? := by
    simp only [putRow, mapBlock, Array.getElem?_modify]
    rw [if_neg (by omega)]
  rw [e]
  exact h1.2.2 i hi

theorem grown_drewN {W w' : World} (h : Grown W w') (n : Nat) : Grown W (w'.drewN n) := h

end Go.Proofs.Qxb6601128aDoor
