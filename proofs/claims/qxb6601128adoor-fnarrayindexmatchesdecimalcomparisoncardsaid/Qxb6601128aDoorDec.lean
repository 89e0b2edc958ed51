/-
  THE WALKS of positiveDecimalB1 and decimalOfB1.
-/
import Derived.Test.Qxb6601128aDoorRows
import Derived.Test.Qxb6601128aDoorRow
import Derived.WalkKit
import Derived.ProofKit
import Derived.Lib.Hide
import Derived.WalkSpells
namespace Go.Proofs.Qxb6601128aDoor
open Go.RowKit Go.Sort Go.Lib

theorem ret_i {k : IntKind} {a b : Int} (h : a = b) : Ending.returned (.int k a) = .returned (.int k b) := by rw [h]
theorem ret_b {a b : Bool} (h : a = b) : Ending.returned (.bool a) = .returned (.bool b) := by rw [h]

theorem store0 (w : World) (blk : Nat) (d : Array UInt8) (i : Nat) (x : UInt8) (hi : i < d.size) :
    (putRow enc w blk 0 d).setCell ⟨blk, i, none⟩ (enc x) = putRow enc w blk 0 (d.setIfInBounds i x) := by
  have := putRow_set enc w blk 0 d i x hi
  rw [Nat.zero_add] at this
  exact this

/-- The 24 zero bytes of 'var buf [24]byte'. -/
def zeros24 : Array UInt8 := Array.replicate 24 0
def cells24 : Array Value := #[.int .u8 0, .int .u8 0, .int .u8 0, .int .u8 0, .int .u8 0, .int .u8 0, .int .u8 0, .int .u8 0, .int .u8 0, .int .u8 0, .int .u8 0, .int .u8 0, .int .u8 0, .int .u8 0, .int .u8 0, .int .u8 0, .int .u8 0, .int .u8 0, .int .u8 0, .int .u8 0, .int .u8 0, .int .u8 0, .int .u8 0, .int .u8 0]
theorem cells24_eq : cells24 = zeros24.map enc := by
  apply Array.toList_inj.1
  rw [Array.toList_map, zeros24, Array.toList_replicate, List.map_replicate]
  rfl
theorem holds_zero24 (w : World) (n : Nat) (hn : n = w.heap.size) : Holds enc (w.alloc (.cells cells24 35)) n 0 zeros24 := by
  rw [cells24_eq]
  exact holds_fresh w zeros24 35 n hn

theorem digit_store (v : Nat) : Value.int .u8 (48 + (v : Int) % 10) = enc (UInt8.ofNat (48 + v % 10)) := by
  unfold enc
  congr 1
  simp only [UInt8.toNat_ofNat']
  omega

/-- 'buf[i:]', buf an array of 24 bytes. -/
theorem slice_tail (b i : Nat) (hi : i < 24) (w : World) :
    (Instr.sliceAt 35 (.pointer (some ⟨b, 0, none⟩)) (some (.int .i64 (i : Int))) none none).run Tryd.prog w = .ok (.slice (some ⟨b, i, none⟩) (24 - i) (24 - i)) w := by
  have hal : Tryd.prog.arrayLen 35 = 24 := by kernel_rfl
  have hel : Tryd.prog.elem 35 = 5 := by kernel_rfl
  have h5 : ∀ w, (sizeOf 5).run Tryd.prog w = .ok 1 w := fun w => by kernel_rfl
  rw [run_sliceAt_array_l w 35 _ (by rw [hal, hel]; exact Tryd.underlying35) .i64 _ (by omega) (by rw [hal]; omega), hal, hel, h5]
  simp only [Result.andThen, slicedAt, Int.toNat_natCast, Nat.mul_one]
  rw [if_neg (by omega), Addr.add_lit, Nat.zero_add]

/-- 'string(buf[i:])'. -/
theorem conv_tail (b i : Nat) (l : List UInt8) (d0 dk : Array UInt8) (w : World) (hs : d0.size = 24) (hT : Tail d0 dk i l) (hH : Holds enc w b 0 dk) :
    (convert 30 9 (.slice (some ⟨b, i, none⟩) (24 - i) (24 - i))).run Tryd.prog w = .ok (.string ⟨l.toArray⟩) w := by
  have hat := hT.at_
  have hsz := hT.size
  have hl : 24 - i = l.length := by omega
  rw [hl]
  refine run_convert_bytes_back w 30 9 5 _ _ l Tryd.underlying30 Tryd.underlying5 Tryd.underlying9 (fun j hj => ?_)
  have hc := row_cell hH (i + j) (by omega)
  have hd := hT.done (i + j)
  rw [if_neg (by omega), show i + j - i = j by omega, List.getElem?_eq_getElem hj] at hd
  have hd' : dk[i + j]! = l[j] := by rw [Array.getElem!_eq_getD, Array.getD_eq_getD_getElem?, hd]; rfl
  rw [hd'] at hc
  rw [Addr.add_lit]
  exact hc

set_option maxHeartbeats 1000000 in
set_option maxRecDepth 100000 in
theorem pos_any (n : Nat) (hn0 : 0 < n) (hn : n < 9223372036854775808) (w : World) :
    Calls Tryd.prog 12 #[.int .i64 (n : Int)] w fun e w' => e = .returned (.string ⟨(decDigits n).toArray⟩) ∧ Below w.heap.size w w' := by
  obtain ⟨W1, hW1⟩ : ∃ W1, W1 = w.alloc (.cells cells24 35) := ⟨_, rfl⟩
  have hH1 : Holds enc W1 w.heap.size 0 zeros24 := by rw [hW1]; exact holds_zero24 w _ rfl
  have hB1 : Below w.heap.size w W1 := by rw [hW1]; exact (Below.refl _ _).alloc (Nat.le_refl _) _
  have AH := Lib.hid hH1
  have HW1 := Lib.hid hW1
  have HB1 := Lib.hid hB1
  have h19 := dec_len19 n hn
  clear hH1 hW1 hB1
  go_enter Tryd.func12, Tryd.ntmps12
  go_wp2
  rw [show w.alloc (.cells #[.int .u8 0, .int .u8 0, .int .u8 0, .int .u8 0, .int .u8 0, .int .u8 0, .int .u8 0, .int .u8 0, .int .u8 0, .int .u8 0, .int .u8 0, .int .u8 0, .int .u8 0, .int .u8 0, .int .u8 0, .int .u8 0, .int .u8 0, .int .u8 0, .int .u8 0, .int .u8 0, .int .u8 0, .int .u8 0, .int .u8 0, .int .u8 0] 35) = W1 from HW1.out.symm]
  go_loopw [0, 4] (fun vn vp wr => ∃ (v i : Nat) (dk : Array UInt8) (acc : List UInt8), v < 9223372036854775808 ∧ vn = .int .i64 (v : Int) ∧ vp = .int .i64 (i : Int) ∧ wr = putRow enc W1 w.heap.size 0 dk ∧ Hid (pd v ++ acc = decDigits n) ∧ Hid (Tail zeros24 dk i acc)) (fun vn _ _ => (RowKit.intOf vn).toNat)
  case atStart => exact ⟨n, 24, zeros24, [], hn, rfl, rfl, (putRow_self _ _ _ _ _ AH.out).symm, by show _ = _; rw [pd_pos n hn0, List.append_nil], Tail.start zeros24⟩
  case round =>
    obtain ⟨v, i, dk, acc, hv, rfl, rfl, hwr, HD, HT⟩ := hrel
    have hsz := HT.out.size
    have hz24 : zeros24.size = 24 := rfl
    have hat := HT.out.at_
    have hHr : Holds enc wr w.heap.size 0 dk := by rw [hwr]; exact holds_putRow _ _ _ _ _ _ AH.out hsz
    have hlen := congrArg List.length HD.out
    rw [List.length_append] at hlen
    have AWr := Lib.hid hwr
    clear hwr
    by_cases hv0 : 0 < v
    · have hv0b : (0 : Int) < (v : Int) := by omega
      have hps := pd_step v hv0
      have hl1 : 1 ≤ (pd v).length := by rw [hps]; simp
      have hi1 : 1 ≤ i := by omega
      obtain ⟨g0, hg0⟩ : ∃ g : Int, wr.cell? ⟨w.heap.size, i - 1, none⟩ = some (.int .u8 g) := ⟨_, row_cell hHr (i - 1) (by omega)⟩
      have hf0 := row_free hHr (i - 1) (by omega)
      have HPS := Lib.hid hps
      have hi24 : i ≤ 24 := by omega
      clear hps hl1 hlen hHr hat
      go_wp2
      go_roundw
      case rel =>
        refine ⟨v / 10, i - 1, dk.setIfInBounds (i - 1) (UInt8.ofNat (48 + v % 10)), UInt8.ofNat (48 + v % 10) :: acc, by omega, by go_num, by go_num, ?_, ?_, HT.out.down hi1 _⟩
        · rw [digit_store v, AWr.out]
          exact store0 W1 _ dk (i - 1) _ (by omega)
        · show _ = _
          rw [← HD.out, HPS.out]
          simp
      case measure => simp [RowKit.intOf]; omega
    · have hv0b : ¬ (0 : Int) < (v : Int) := by omega
      have hacc : acc = decDigits n := by
        have := HD.out
        rw [show v = 0 by omega] at this
        simpa [pd] using this
      have hd1 := dec_len1 n
      subst hacc
      have hi24 : i < 24 := by omega
      have hsl := slice_tail w.heap.size i hi24
      have hcv := conv_tail w.heap.size i _ zeros24 dk wr rfl HT.out hHr
      have HB := Lib.hid (show Below w.heap.size w wr by
        rw [AWr.out]
        exact HB1.out.trans ⟨rfl, rfl, rfl, by simp, fun k hk => by
          simp only [putRow, mapBlock, Array.getElem?_modify]
          rw [if_neg (by omega)]⟩)
      clear hHr hlen hat
      go_wp2
      go_ret
      exact ⟨rfl, HB.out⟩

theorem decOf_any (i : Nat) (hi : i < 9223372036854775808) (w : World) :
    Calls Tryd.prog 7 #[.int .i64 (i : Int)] w fun e w' => e = .returned (.string ⟨(decDigits i).toArray⟩) ∧ Below w.heap.size w w' := by
  by_cases h0 : i = 0
  · subst h0
    go_enter Tryd.func7, Tryd.ntmps7
    go_wp2
    go_ret
    exact ⟨by rw [decDigits_one (by omega)]; rfl, Below.refl _ _⟩
  · have h0b : ((i : Int) == 0) = false := by simp; omega
    have HP := Lib.hid (fun w => pos_any i (by omega) hi w)
    go_enter Tryd.func7, Tryd.ntmps7
    go_wp2_with (go_at_call 12; refine (HP.out _).mono ?_; rintro e w' ⟨rfl, hb⟩; have HB := Lib.hid hb; clear hb)
    go_ret
    exact ⟨rfl, by assumption⟩
end Go.Proofs.Qxb6601128aDoor
