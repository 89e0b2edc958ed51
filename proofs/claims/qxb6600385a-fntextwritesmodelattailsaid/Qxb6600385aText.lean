/-
  THE WALKS of putPair and (Decimal).text.
-/
import Derived.Test.Qxb6600385aRows
import Derived.Test.Qxb6600385aRow
import Derived.WalkKit
import Derived.ProofKit
import Derived.Lib.ItoaWalk
import Derived.Lib.Walk
import Derived.WalkSpells
namespace Go.Proofs.Qxb6600385a
open Go.RowKit Go.Sort Go.Lib

set_option maxHeartbeats 400000 in
set_option maxRecDepth 100000 in
theorem putPair_any (blk : Nat) (I N : Int) (i n : Nat) (d : Array UInt8) (w : World) (hI : I = (i : Int)) (hN : N = (n : Int)) (hH : Holds enc w blk 0 d) (hs : d.size = 22) (hi : i + 1 < 22) (hn : n < 100) :
    Calls Try.prog 21 #[.pointer (some ⟨blk, 0, none⟩), .int .i64 I, .int .u64 N] w fun e w' =>
      e = .returned (.tuple #[]) ∧ w' = (putRow enc w blk 0 ((d.setIfInBounds i (sm (n * 2))).setIfInBounds (i + 1) (sm (n * 2 + 1)))).drewN 1 := by
  subst hI hN
  obtain ⟨g0, hg0⟩ : ∃ g : Int, w.cell? ⟨blk, i, none⟩ = some (.int .u8 g) := ⟨_, row_cell hH i (by omega)⟩
  obtain ⟨g1, hg1⟩ : ∃ g : Int, w.cell? ⟨blk, i + 1, none⟩ = some (.int .u8 g) := ⟨_, row_cell hH (i + 1) (by omega)⟩
  have hf0 := row_free hH i (by omega)
  have hf1 := row_free hH (i + 1) (by omega)
  go_enter Try.func21, Try.ntmps21
  go_name_bytes SM hSM
  have eSM : SM = Lib.smalls := by rw [← hSM]; decide +kernel
  subst eSM
  clear hSM
  have hXa : ∀ w, (Instr.index 9 (.string Lib.smalls) (.int .u64 (2 * (n : Int) + 1))).run Try.prog w = .ok (.int .u8 ((sm (n * 2 + 1)).toNat : Int)) w := idx_smalls 9 Try.underlying9 .u64 _ _ (by omega) (by omega)
  have hXb : ∀ w, (Instr.index 9 (.string Lib.smalls) (.int .u64 (2 * (n : Int)))).run Try.prog w = .ok (.int .u8 ((sm (n * 2)).toNat : Int)) w := idx_smalls 9 Try.underlying9 .u64 _ _ (by omega) (by omega)
  go_wp2
  go_region
  go_end0
  refine ⟨rfl, ?_⟩
  have e0 : w = (putRow enc w blk 0 d).drewN 0 := (putRow_self enc w blk 0 d hH).symm
  have e1 := store1 w blk d 0 i (sm (n * 2)) (by omega)
  have e2 := store1 w blk (d.setIfInBounds i (sm (n * 2))) 0 (i + 1) (sm (n * 2 + 1)) (by simp; omega)
  rw [← e1, ← e0] at e2
  have e3 : (w.setCell ⟨blk, i, none⟩ (enc (sm (n * 2)))).setCell ⟨blk, i + 1, none⟩ (enc (sm (n * 2 + 1))) = putRow enc w blk 0 ((d.setIfInBounds i (sm (n * 2))).setIfInBounds (i + 1) (sm (n * 2 + 1))) := e2
  rw [← e3]
  rfl

/-- A round of the fraction's loop, in plain words. -/
theorem frac_round {c s m v i : Nat} {d0 dk : Array UInt8} (hv : v = c / 10 ^ (s - (m + 2))) (hms : m + 2 ≤ s) (hT : Tail d0 dk (i + 2) (frac c (s - (m + 2)))) :
    v / 100 = c / 10 ^ (s - m) ∧ Tail d0 ((dk.setIfInBounds i (sm (v % 100 * 2))).setIfInBounds (i + 1) (sm (v % 100 * 2 + 1))) i (frac c (s - m)) := by
  obtain ⟨k, hk⟩ : ∃ k, s - (m + 2) = k := ⟨_, rfl⟩
  have e : s - m = k + 2 := by omega
  rw [hk] at hv hT
  rw [e, hv]
  exact ⟨div_pow_succ2 c k, by rw [frac_cons2]; exact hT.step2 _ _⟩

theorem ret_int {k : IntKind} {a b : Int} (h : a = b) : Ending.returned (.int k a) = .returned (.int k b) := by rw [h]

/-- The byte that 'byte('0' + c - q*10)' stores. -/
theorem digit_store (v : Nat) : Value.int .u8 (IntKind.u64.wrap (IntKind.u64.wrap (48 + (v : Int)) - (v : Int) / 10 * 10) % 256) = enc (UInt8.ofNat (48 + v % 10)) := by
  unfold enc
  congr 1
  simp only [IntKind.wrap, IntKind.bits, IntKind.signed, UInt8.toNat_ofNat']
  simp
  omega

theorem digit_store1 (v : Nat) (hv : v < 10) : Value.int .u8 (48 + (v : Int)) = enc (UInt8.ofNat (48 + v)) := by
  unfold enc
  congr 1
  simp only [UInt8.toNat_ofNat']
  omega

theorem body_start (c s : Nat) (hs : s ≠ 0) : decDigits (c / 10 ^ s) ++ 46 :: frac c s = body c s := by
  unfold body tailOf
  rw [if_neg hs]
theorem body_start0 (c : Nat) : decDigits c ++ [] = body c 0 := by
  unfold body tailOf
  simp

/-- Where the writing ends. -/
theorem text_end {d0 dk : Array UInt8} {i : Nat} {acc : List UInt8} {c s : Nat} {neg : Bool} (h0 : d0.size = 22) (hT : Tail d0 dk i acc) (he : acc = txt c s neg) : i = 22 - (txt c s neg).length ∧ Tail d0 dk (22 - (txt c s neg).length) (txt c s neg) := by
  subst he
  have := hT.at_
  have e : i = 22 - (txt c s neg).length := by omega
  rw [← e]
  exact ⟨rfl, hT⟩

set_option maxHeartbeats 2000000 in
set_option maxRecDepth 100000 in
theorem text_any (blk c s : Nat) (neg : Bool) (d0 : Array UInt8) (w : World) (hb : blk < w.heap.size) (hH : Holds enc w blk 0 d0) (hs0 : d0.size = 22) (hc : c < 18446744073709551616) (hs : s ≤ 19) :
    Calls Try.prog 20 #[.agg #[.int .u64 (c : Int), .int .u8 (s : Int), .bool neg], .pointer (some ⟨blk, 0, none⟩)] w fun e w' =>
      ∃ dk q, e = .returned (.int .i64 ((22 - (txt c s neg).length : Nat) : Int)) ∧ w' = (putRow enc (w.alloc (.cells #[.int .u64 (c : Int), .int .u8 (s : Int), .bool neg] 32)) blk 0 dk).drewN q ∧ Tail d0 dk (22 - (txt c s neg).length) (txt c s neg) := by
  obtain ⟨W1, hW1⟩ : ∃ W1, W1 = w.alloc (.cells #[.int .u64 (c : Int), .int .u8 (s : Int), .bool neg] 32) := ⟨_, rfl⟩
  have hH1 : Holds enc W1 blk 0 d0 := by rw [hW1, alloc_eq_grow]; exact holds_grow enc w _ blk 0 d0 hb hH
  have cB1 : W1.cell? ⟨w.heap.size, 1, none⟩ = some (.int .u8 (s : Int)) := by rw [hW1]; simp [go_sem]
  have cB2 : W1.cell? ⟨w.heap.size, 2, none⟩ = some (.bool neg) := by rw [hW1]; simp [go_sem]
  have AH := Lib.hid hH1
  clear hH1 hH
  go_enter Try.func20, Try.ntmps20
  go_wp2
  have HW1 := Lib.hid hW1
  rw [← hW1]
  clear hW1
  go_loopw [5, 6, 7] (fun vi vc vn wr => ∃ (i v m q : Nat) (dk : Array UInt8), i + s = 22 + m ∧ m ≤ s ∧ vi = .int .i64 (i : Int) ∧ vc = .int .u64 (v : Int) ∧ vn = .int .i64 (m : Int) ∧ wr = (putRow enc W1 blk 0 dk).drewN q ∧ Hid (v = c / 10 ^ (s - m)) ∧ Hid (Tail d0 dk i (frac c (s - m)))) (fun _ _ vn _ => (RowKit.intOf vn).toNat)
  case atStart => exact ⟨22, c, s, 0, d0, by omega, by omega, rfl, rfl, rfl, (putRow_self _ _ _ _ _ AH.out).symm, by show c = _; simp, by show Tail d0 d0 22 (frac c (s - s)); rw [Nat.sub_self, ← hs0]; exact Tail.start d0⟩
  case round =>
    obtain ⟨i, v, m, q, dk, him, hms, rfl, rfl, rfl, hwr, HV, HT⟩ := hrel
    have hv64 : v < 18446744073709551616 := by have := HV.out; have := Nat.div_le_self c (10 ^ (s - m)); omega
    have hsz := HT.out.size
    have AHr := Lib.hid (holds_now q AH.out hsz)
    rw [← hwr] at AHr
    have AWr := Lib.hid hwr
    clear hwr
    by_cases h2 : 2 ≤ m
    · obtain ⟨m, rfl⟩ : ∃ k, m = k + 2 := ⟨m - 2, by omega⟩
      obtain ⟨i, rfl⟩ : ∃ k, i = k + 2 := ⟨i - 2, by omega⟩
      go_wp2_with fail
      refine (putPair_any blk _ _ i (v % 100) dk _ (by omega) (by omega) AHr.out (by omega) (by omega) (by omega)).mono ?_
      rintro e w1 ⟨rfl, hw1⟩
      have AW := Lib.hid hw1
      clear hw1
      go_wp2
      go_roundw
      case rel =>
        have hR := frac_round HV.out hms HT.out
        exact ⟨i, v / 100, m, q + 1, _, by omega, by omega, rfl, by go_num, rfl, by rw [AW.out, AWr.out]; exact put_put W1 blk _ _ q 1 (by simp), hR.1, hR.2⟩
      case measure => simp [RowKit.intOf]; omega
    · have cBr1 : wr.cell? ⟨w.heap.size, 1, none⟩ = some (.int .u8 (s : Int)) := by rw [AWr.out]; exact (cell?_putRow_other enc W1 blk 0 dk _ (.inl (by simp; omega))).trans cB1
      have cBr2 : wr.cell? ⟨w.heap.size, 2, none⟩ = some (.bool neg) := by rw [AWr.out]; exact (cell?_putRow_other enc W1 blk 0 dk _ (.inl (by simp; omega))).trans cB2
      have hne : blk ≠ w.heap.size := by omega
      have hne' : w.heap.size ≠ blk := by omega
      rcases (show (1 ≤ m ∧ m ≤ 1) ∨ (m ≤ 0 ∧ s ≤ 0) ∨ (m ≤ 0 ∧ 1 ≤ s) by omega) with h1 | h1 | h1
      case' inl =>
        obtain ⟨h1, h1'⟩ := h1
        have hm1 : ((m : Int) == 1) = true := by simp; omega
        have hm2 : decide (2 ≤ (m : Int)) = false := decide_eq_false (by omega)
        have hs1 : 0 < s := by omega
        have hi2 : 2 ≤ i := by omega
        obtain ⟨g0, hg0⟩ : ∃ g : Int, wr.cell? ⟨blk, i - 1 - 1, none⟩ = some (.int .u8 g) := ⟨_, row_cell AHr.out (i - 1 - 1) (by omega)⟩
        obtain ⟨g1, hg1⟩ : ∃ g : Int, wr.cell? ⟨blk, i - 1, none⟩ = some (.int .u8 g) := ⟨_, row_cell AHr.out (i - 1) (by omega)⟩
        have hf0 := row_free AHr.out (i - 1 - 1) (by omega)
        have hf1 := row_free AHr.out (i - 1) (by omega)
        go_wp2
        go_loopw [5, 6] (fun vi vc wr => ∃ (i v q : Nat) (dk : Array UInt8) (acc : List UInt8), vi = .int .i64 (i : Int) ∧ vc = .int .u64 (v : Int) ∧ v < 18446744073709551616 ∧ wr = (putRow enc W1 blk 0 dk).drewN q ∧ Hid (decDigits v ++ acc = body c s) ∧ Hid (Tail d0 dk i acc)) (fun _ vc _ => (RowKit.intOf vc).toNat)
        case' atStart =>
          obtain ⟨k, hk⟩ : ∃ k, s = k + 1 := ⟨s - 1, by omega⟩
          have hV := HV.out
          have hT := HT.out
          have hsm : s - m = k := by omega
          rw [hsm] at hV hT
          have e1 := store1 W1 blk dk q (i - 1) (UInt8.ofNat (48 + v % 10)) (by omega)
          have e2 := store1 W1 blk (dk.setIfInBounds (i - 1) (UInt8.ofNat (48 + v % 10))) q (i - 1 - 1) 46 (by rw [Array.size_setIfInBounds]; omega)
          rw [← e1] at e2
          refine ⟨i - 1 - 1, v / 10, q, _, _, by go_num, by go_num, by omega, by rw [digit_store v, AWr.out]; exact e2, ?_, (hT.down (by omega) _).down (by omega) _⟩
          show _ = _
          rw [← body_start c s (by omega), hk, frac_cons, hV, div_pow_succ1]
      case' inr.inl =>
        obtain ⟨h1, h1'⟩ := h1
        have hm1 : ((m : Int) == 1) = false := by simp; omega
        have hm2 : decide (2 ≤ (m : Int)) = false := decide_eq_false (by omega)
        have hs1 : ¬ 0 < s := by omega
        go_wp2
        go_loopw [5, 6] (fun vi vc wr => ∃ (i v q : Nat) (dk : Array UInt8) (acc : List UInt8), vi = .int .i64 (i : Int) ∧ vc = .int .u64 (v : Int) ∧ v < 18446744073709551616 ∧ wr = (putRow enc W1 blk 0 dk).drewN q ∧ Hid (decDigits v ++ acc = body c s) ∧ Hid (Tail d0 dk i acc)) (fun _ vc _ => (RowKit.intOf vc).toNat)
        case' atStart =>
          have hV := HV.out
          have hT := HT.out
          have hsm : s - m = 0 := by omega
          rw [hsm] at hV hT
          refine ⟨i, v, q, dk, [], rfl, rfl, hv64, AWr.out, ?_, hT⟩
          show _ = _
          rw [hV, show s = 0 by omega]
          simpa using body_start0 c
      case' inr.inr =>
        obtain ⟨h1, h1'⟩ := h1
        have hm1 : ((m : Int) == 1) = false := by simp; omega
        have hm2 : decide (2 ≤ (m : Int)) = false := decide_eq_false (by omega)
        have hs1 : 0 < s := by omega
        have hi2 : 1 ≤ i := by omega
        obtain ⟨g0, hg0⟩ : ∃ g : Int, wr.cell? ⟨blk, i - 1, none⟩ = some (.int .u8 g) := ⟨_, row_cell AHr.out (i - 1) (by omega)⟩
        have hf0 := row_free AHr.out (i - 1) (by omega)
        go_wp2
        go_loopw [5, 6] (fun vi vc wr => ∃ (i v q : Nat) (dk : Array UInt8) (acc : List UInt8), vi = .int .i64 (i : Int) ∧ vc = .int .u64 (v : Int) ∧ v < 18446744073709551616 ∧ wr = (putRow enc W1 blk 0 dk).drewN q ∧ Hid (decDigits v ++ acc = body c s) ∧ Hid (Tail d0 dk i acc)) (fun _ vc _ => (RowKit.intOf vc).toNat)
        case' atStart =>
          have hV := HV.out
          have hT := HT.out
          have hsm : s - m = s := by omega
          rw [hsm] at hV hT
          refine ⟨i - 1, v, q, _, _, by go_num, rfl, hv64, by rw [AWr.out]; exact store1 W1 blk dk q (i - 1) 46 (by omega), ?_, hT.down (by omega) _⟩
          show _ = _
          rw [hV]
          exact body_start c s (by omega)
      all_goals
        clear hv64 hsz AHr AWr cBr1 cBr2 HV HT him hms h2 h1 h1'
        obtain ⟨i, v, q, dk, acc, rfl, rfl, hv64, hwr, HD, HT⟩ := hrel
        have hsz := HT.out.size
        have hat := HT.out.at_
        have hlen := congrArg List.length HD.out
        rw [List.length_append] at hlen
        have hb21 := body_len c _ hc hs
        have AHr := Lib.hid (holds_now q AH.out hsz)
        rw [← hwr] at AHr
        have AWr := Lib.hid hwr
        clear hwr
        by_cases h100 : 100 ≤ v
        · have hl3 := dec_len3 v h100
          obtain ⟨i, rfl⟩ : ∃ k, i = k + 3 := ⟨i - 3, by omega⟩
          have HL := Lib.hid hlen
          clear hlen
          go_wp2_with fail
          refine (putPair_any blk _ _ (i + 1) (v % 100) dk _ (by omega) (by omega) AHr.out (by omega) (by omega) (by omega)).mono ?_
          rintro e w1 ⟨rfl, hw1⟩
          have AW := Lib.hid hw1
          clear hw1
          go_wp2
          go_roundw
          case rel =>
            refine ⟨i + 1, v / 100, q + 1, _, _, by go_num, by go_num, by omega, by rw [AW.out, AWr.out]; exact put_put W1 blk _ _ q 1 (by simp), ?_, HT.out.step2 _ _⟩
            have hD := HD.out
            rw [dec_big v h100] at hD
            show _ = _
            simpa using hD
          case measure => simp [RowKit.intOf]; omega
        · by_cases h10 : 10 ≤ v
          · have hd2 := dec_two v h10 (by omega)
            have hl2 : (decDigits v).length = 2 := by rw [hd2]; rfl
            have hD := HD.out
            rw [hd2] at hD
            have HB := Lib.hid hD
            have hi3 : 3 ≤ i := by omega
            have HL := Lib.hid hlen
            clear hlen hD hd2 hl2
            go_wp2_with fail
            refine (putPair_any blk _ _ (i - 2) v dk _ (by omega) rfl AHr.out (by omega) (by omega) (by omega)).mono ?_
            rintro e w1 ⟨rfl, hw1⟩
            have hT2 := Tail.step2 (i := i - 2) (by rw [Nat.sub_add_cancel (by omega)]; exact HT.out) (sm (v * 2)) (sm (v * 2 + 1))
            rw [AWr.out, put_put W1 blk _ _ q 1 (by simp)] at hw1
            generalize (dk.setIfInBounds (i - 2) (sm (v * 2))).setIfInBounds (i - 2 + 1) (sm (v * 2 + 1)) = dk2 at hw1 hT2
            have cN : w1.cell? ⟨w.heap.size, 2, none⟩ = some (.bool neg) := by rw [hw1]; exact (cell?_putRow_other enc W1 blk 0 dk2 _ (.inl (by simp; omega))).trans cB2
            have hH2 : Holds enc w1 blk 0 dk2 := by rw [hw1]; exact holds_now _ AH.out hT2.size
            have hs2 := hT2.size
            obtain ⟨g2, hg2⟩ : ∃ g : Int, w1.cell? ⟨blk, i - 2 - 1, none⟩ = some (.int .u8 g) := ⟨_, row_cell hH2 (i - 2 - 1) (by omega)⟩
            have hf2 := row_free hH2 (i - 2 - 1) (by omega)
            have AW := Lib.hid hw1
            have HT2 := Lib.hid hT2
            clear hw1 hT2 hH2
            cases neg
            · have hE := text_end (c := c) (s := s) (neg := false) hs0 HT2.out HB.out
              have HE := Lib.hid hE
              clear hE
              go_wp2
              go_ret
              exact ⟨dk2, q + 1, ret_int (a := (i : Int) - 2) (by have := HE.out.1; omega), by rw [AW.out, HW1.out], HE.out.2⟩
            · have hE := text_end (c := c) (s := s) (neg := true) hs0 (HT2.out.down (by omega) 45) (congrArg (List.cons 45) HB.out)
              have HE := Lib.hid hE
              clear hE
              go_wp2
              go_ret
              exact ⟨dk2.setIfInBounds (i - 2 - 1) 45, q + 1, ret_int (a := (i : Int) - 2 - 1) (by have := HE.out.1; omega), by rw [AW.out, HW1.out]; exact store1 _ blk dk2 (q + 1) (i - 2 - 1) 45 (by omega), HE.out.2⟩
          · have hd2 := decDigits_one (i := v) (by omega)
            have hl2 : (decDigits v).length = 1 := by rw [hd2]; rfl
            have hD := HD.out
            rw [hd2] at hD
            have HB := Lib.hid hD
            have hi3 : 2 ≤ i := by omega
            have HL := Lib.hid hlen
            have hT2 := HT.out.down (by omega) (UInt8.ofNat (48 + v))
            have cN : wr.cell? ⟨w.heap.size, 2, none⟩ = some (.bool neg) := by rw [AWr.out]; exact (cell?_putRow_other enc W1 blk 0 dk _ (.inl (by simp; omega))).trans cB2
            obtain ⟨g1, hg1⟩ : ∃ g : Int, wr.cell? ⟨blk, i - 1, none⟩ = some (.int .u8 g) := ⟨_, row_cell AHr.out (i - 1) (by omega)⟩
            obtain ⟨g2, hg2⟩ : ∃ g : Int, wr.cell? ⟨blk, i - 1 - 1, none⟩ = some (.int .u8 g) := ⟨_, row_cell AHr.out (i - 1 - 1) (by omega)⟩
            have hf1 := row_free AHr.out (i - 1) (by omega)
            have hf2 := row_free AHr.out (i - 1 - 1) (by omega)
            have HT2 := Lib.hid hT2
            have HE1 := Lib.hid (store1 W1 blk dk q (i - 1) (UInt8.ofNat (48 + v)) (by omega))
            clear hlen hD hd2 hl2 hT2
            cases neg
            · have hE := text_end (c := c) (s := s) (neg := false) hs0 HT2.out HB.out
              have HE := Lib.hid hE
              clear hE
              go_wp2
              go_ret
              refine ⟨dk.setIfInBounds (i - 1) (UInt8.ofNat (48 + v)), q, ret_int (a := (i : Int) - 1) (by have := HE.out.1; omega), ?_, HE.out.2⟩
              rw [digit_store1 v (by omega), AWr.out, HE1.out, HW1.out]
            · have hE := text_end (c := c) (s := s) (neg := true) hs0 (HT2.out.down (by omega) 45) (congrArg (List.cons 45) HB.out)
              have HE := Lib.hid hE
              clear hE
              go_wp2
              go_ret
              refine ⟨(dk.setIfInBounds (i - 1) (UInt8.ofNat (48 + v))).setIfInBounds (i - 1 - 1) 45, q, ret_int (a := (i : Int) - 1 - 1) (by have := HE.out.1; omega), ?_, HE.out.2⟩
              rw [digit_store1 v (by omega), AWr.out, HE1.out, ← HW1.out]
              exact store1 _ blk _ q (i - 1 - 1) 45 (by rw [Array.size_setIfInBounds]; omega)
end Go.Proofs.Qxb6600385a
