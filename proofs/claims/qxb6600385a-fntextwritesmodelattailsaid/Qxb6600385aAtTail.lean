/-
  THE WALKS of ZZText and FnTextWritesModelAtTail.
-/
import Derived.Test.Qxb6600385aModel
import Derived.Test.Qxb6600385aInj
import Derived.Deep.RegionWith
namespace Go.Proofs.Qxb6600385a
open Go.RowKit Go.Sort Go.Lib

theorem grown_holds {w w' : World} (h : Grown w w') {b : Nat} {d : Array UInt8} (hb : b < w.heap.size) (hH : Holds enc w b 0 d) : Holds enc w' b 0 d := fun j hj =>
  ⟨(World.keptBut.cell h.1 hb (fun f => f)).trans (hH j hj).1, (h.2.1 _).trans (hH j hj).2⟩

set_option maxRecDepth 100000 in
theorem zztext_at (blk : Nat) (C S : Int) (c s : Nat) (neg : Bool) (d0 : Array UInt8) (w : World) (hC : C = (c : Int)) (hS : S = (s : Int)) (hb : blk < w.heap.size) (hH : Holds enc w blk 0 d0) (hs0 : d0.size = 22) (hc : c < 18446744073709551616) (hs : s ≤ 19) :
    Calls Try.prog 18 #[.agg #[.int .u64 C, .int .u8 S, .bool neg], .pointer (some ⟨blk, 0, none⟩)] w fun e w' =>
      ∃ (dk : Array UInt8) (i : Nat), e = .returned (.int .i64 (i : Int)) ∧ Holds enc w' blk 0 dk ∧ Tail d0 dk i (txt c s neg) ∧ i < 22 ∧ w.heap.size ≤ w'.heap.size ∧ ∀ W, Grown W w → W.heap.size ≤ blk → Grown W w' := by
  have HC := Lib.hid hC
  have HS := Lib.hid hS
  have AH := Lib.hid hH
  clear hC hS hH
  go_enter Try.func18, Try.ntmps18
  go_wp2_with fail
  refine (text_at blk C S c s neg d0 _ HC.out HS.out ?_ ?_ hs0 hc hs).mono ?_
  · simp; omega
  · exact holds_alloc hb AH.out _
  rintro e w1 ⟨dk, i, rfl, hH1, hT, hi, hz, _, hG1⟩
  have HH1 := Lib.hid hH1
  have HT := Lib.hid hT
  have HG1 := Lib.hid hG1
  have HZ := Lib.hid hz
  clear hH1 hT hG1 hz
  go_wp2
  go_ret
  exact ⟨dk, i, rfl, HH1.out, HT.out, hi, by rw [HZ.out]; simp; omega, fun W hW hB => HG1.out W (hW.alloc _ _) hB⟩

set_option maxHeartbeats 1000000 in
set_option maxRecDepth 100000 in
theorem tail_walk (c s : Nat) (neg : Bool) (f : Nat) (hc : c < 18446744073709551616) (hf : f < 256) (w : World) :
    Calls Try.prog 8 #[.int .u64 (c : Int), .int .u8 (s : Int), .bool neg, .int .u8 (f : Int)] w fun e w' => e = .returned (.bool true) ∧ Grown w w' := by
  by_cases k1 : 19 < s
  · have k1' : (19 : Int) < (s : Int) := by omega
    go_enter Try.func8, Try.ntmps8
    go_wp2
    go_ret
    exact ⟨rfl, Grown.refl _⟩
  have k1' : ¬ (19 : Int) < (s : Int) := by omega
  obtain ⟨W1, hW1⟩ : ∃ W1, W1 = w.alloc (.cells cells22 39) := ⟨_, rfl⟩
  have hH1 : Holds enc W1 w.heap.size 0 zeros22 := by rw [hW1]; exact holds_zero22 w _ rfl
  have hz1 : W1.heap.size = w.heap.size + 1 := by rw [hW1]; simp
  have hx : (UInt8.ofNat f).toNat = f := by simp only [UInt8.toNat_ofNat']; omega
  have HX := Lib.hid hx
  have AH := Lib.hid hH1
  have HW1 := Lib.hid hW1
  clear hH1 hW1 hx
  go_enter Try.func8, Try.ntmps8
  go_wp2
  rw [show w.alloc (.cells #[.int .u8 0, .int .u8 0, .int .u8 0, .int .u8 0, .int .u8 0, .int .u8 0, .int .u8 0, .int .u8 0, .int .u8 0, .int .u8 0, .int .u8 0, .int .u8 0, .int .u8 0, .int .u8 0, .int .u8 0, .int .u8 0, .int .u8 0, .int .u8 0, .int .u8 0, .int .u8 0, .int .u8 0, .int .u8 0] 39) = W1 from HW1.out.symm]
  go_loopw [10] (fun vk wr => ∃ (k : Nat) (dk : Array UInt8), k ≤ 22 ∧ vk = .int .i64 (k : Int) ∧ wr = putRow enc W1 w.heap.size 0 dk ∧ dk.size = 22 ∧ Hid (∀ t, t < k → dk[t]! = UInt8.ofNat f)) (fun vk _ => 22 - (RowKit.intOf vk).toNat)
  case atStart => exact ⟨0, zeros22, by omega, rfl, (putRow_self _ _ _ _ _ AH.out).symm, rfl, fun t ht => by omega⟩
  case round =>
    obtain ⟨k, dk, hk, rfl, hwr, hsz, HD⟩ := hrel
    have hHr : Holds enc wr w.heap.size 0 dk := by rw [hwr]; exact holds_putRow _ _ _ _ _ _ AH.out hsz
    have hzr : wr.heap.size = w.heap.size + 1 := by rw [hwr]; simpa using hz1
    have AWr := Lib.hid hwr
    clear hwr
    by_cases hk22 : k < 22
    · obtain ⟨g0, hg0⟩ : ∃ g : Int, wr.cell? ⟨w.heap.size, k, none⟩ = some (.int .u8 g) := ⟨_, row_cell hHr k (by omega)⟩
      have hf0 := row_free hHr k (by omega)
      have AHr := Lib.hid hHr
      clear hHr
      go_wp2
      go_roundw
      case rel =>
        refine ⟨k + 1, dk.setIfInBounds k (UInt8.ofNat f), by omega, by go_num, ?_, by simpa using hsz, ?_⟩
        · rw [AWr.out, ← store0 W1 _ dk k _ (by omega)]
          unfold enc
          rw [HX.out]
        · intro t ht
          by_cases e : t = k
          · subst e; exact get_set_same _ _ _ (by omega)
          · rw [get_set_other _ _ _ _ e]; exact HD.out t (by omega)
      case measure => simp [RowKit.intOf]; omega
    · have AHr := Lib.hid hHr
      clear hHr
      have hkb : decide ((k : Int) < 22) = false := decide_eq_false (by omega)
      have HG := Lib.hid (show Grown w wr by rw [AWr.out, HW1.out]; exact grown_putRow ((Grown.refl w).alloc _ _) (Nat.le_refl _) 0 dk)
      go_wp2_with fail
      refine (zzdecimal_any _ _ _ _).mono ?_
      rintro e w2 ⟨rfl, cs, hw2⟩
      have HW2 := Lib.hid hw2
      clear hw2
      go_wp2_with fail
      refine (zztext_at w.heap.size _ _ c s neg dk _ rfl rfl ?_ ?_ hsz hc (by omega)).mono ?_
      · rw [HW2.out]; simp; omega
      · rw [HW2.out]; exact holds_alloc (by simp; omega) (holds_alloc (by omega) AHr.out _) _
      rintro e w3 ⟨dk3, i, rfl, hH3, hT3, hi, hz3, hG3⟩
      have HT3 := Lib.hid hT3
      have AH3 := Lib.hid hH3
      have HG3 := Lib.hid (hG3 w (by rw [HW2.out]; exact (HG.out.alloc _ _).alloc _ _) (Nat.le_refl _))
      have hz3' : w.heap.size < w3.heap.size := by have := HG3.out.2.2; rw [HW2.out] at hz3; simp at hz3; omega
      have hcl : ∀ t, t < i → w3.cell? ⟨w.heap.size, t, none⟩ = some (.int .u8 (f : Int)) := fun t ht => by
        have h1 := row_cell hH3 t (by have := hT3.size; omega)
        rw [hT3.low t ht, HD.out t (by omega), HX.out] at h1
        exact h1
      have HCL := Lib.hid hcl
      have hi0 : decide ((i : Int) < 0) = false := decide_eq_false (by omega)
      have hi22 : decide ((22 : Int) < (i : Int)) = false := decide_eq_false (by omega)
      clear hT3 hH3 hG3 hz3 hcl
      go_wp2
      go_loop [13] (fun vk => ∃ j : Nat, j ≤ i ∧ vk = .int .i64 (j : Int)) (fun vk => 22 - (RowKit.intOf vk).toNat)
      case atStart => exact ⟨0, by omega, rfl⟩
      case round =>
        obtain ⟨j, hj, rfl⟩ := hrel
        by_cases hji : j < i
        · have hc1 := HCL.out j hji
          go_wp2
          go_round
          case rel => exact ⟨j + 1, by omega, by go_num⟩
          case measure => simp [RowKit.intOf]; omega
        · have HCV := Lib.hid (fun (W : World) (hW : Grown w3 W) => conv_tail w.heap.size i _ dk dk3 W hsz HT3.out (grown_holds hW hz3' AH3.out))
          have hsl := slice_tail w.heap.size i hi
          have hcv0 := HCV.out w3.drew ((Grown.refl w3).drew)
          have hmod := fun (W : World) => model_any c s neg W hc (by omega)
          have HM := Lib.hid hmod
          clear hmod
          go_wp2
          go_region_with (go_at_call 17; refine (HM.out _).mono ?_; rintro e w4 ⟨rfl, hg4⟩; have hcv4 := HCV.out w4 hg4; have HG4 := Lib.hid hg4; clear hg4)
          all_goals
            go_wp2
            go_ret
            exact ⟨rfl, grown_trans HG3.out (by assumption)⟩
end Go.Proofs.Qxb6600385a
