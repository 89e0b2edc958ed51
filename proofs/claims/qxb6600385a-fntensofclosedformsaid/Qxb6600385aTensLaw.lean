/-
  THE WALK of FnTensOfClosedForm.
-/
import Derived.Test.Qxb6600385aTens
namespace Go.Proofs.Qxb6600385a
open Go.RowKit

/-- The law's last line, in plain words. -/
theorem tens_final (T : Int) (z : Nat → Nat) (n : Nat) :
    tensAns T z n = if 19 < (if (hasZ z n || decide (T < (tot z n : Int))) = true then T else (tot z n : Int)) then (if (hasZ z n || decide (T < (tot z n : Int))) = true then T else (tot z n : Int)) - 19 else 0 := by
  unfold tensAns
  rw [tens_closed]
  cases h : hasZ z n
  · by_cases h' : T < (tot z n : Int)
    · simp [h']
      split <;> split <;> omega
    · simp [h']
      split <;> split <;> omega
  · simp
    split <;> split <;> omega

set_option maxHeartbeats 2000000 in
set_option maxRecDepth 100000 in
theorem tens_walk (a : Option Addr) (len cap : Nat) (z : Nat → Nat) (T : Int) (w : World) (hlc : len ≤ maxLen) (hS : Sl w a len z) (hz : ∀ k, z k < 18446744073709551616) (hT1 : -9223372036854775808 ≤ T) (hT2 : T ≤ 9223372036854775807) :
    Calls Try.prog 3 #[.slice a len cap, .int .i64 T] w fun e w' => e = .returned (.bool true) ∧ Below w.heap.size w w' := by
  unfold maxLen at hlc
  have HS := Lib.hid hS
  have HZ := Lib.hid hz
  clear hS hz
  by_cases h20 : 1048576 < len
  · have h20' : (1048576 : Int) < (len : Int) := by omega
    go_enter Try.func3, Try.ntmps3
    go_wp2
    go_ret
    exact ⟨rfl, Below.refl _ _⟩
  by_cases h17 : 131072 < len
  · have h20' : ¬ (1048576 : Int) < (len : Int) := by omega
    have h17' : (131072 : Int) < (len : Int) := by omega
    go_enter Try.func3, Try.ntmps3
    go_wp2
    go_ret
    exact ⟨rfl, Below.refl _ _⟩
  have h20' : ¬ (1048576 : Int) < (len : Int) := by omega
  have h17' : ¬ (131072 : Int) < (len : Int) := by omega
  clear h20 hlc
  go_enter Try.func3, Try.ntmps3
  go_wp2
  go_loop [5, 6] (fun vh vk => ∃ k : Nat, k ≤ len ∧ vh = .bool (hasZ z k) ∧ vk = .int .i64 (k : Int)) (fun _ vk => len - (intOf vk).toNat)
  case atStart => exact ⟨0, by omega, rfl, rfl⟩
  case round =>
    obtain ⟨k, hk, rfl, rfl⟩ := hrel
    by_cases hkl : k < len
    · have hkb : (k : Int) < (len : Int) := by omega
      rcases HS.out with ⟨_, h0⟩ | ⟨x, hxa, hx⟩
      · omega
      · subst hxa
        have hcx := hx k hkl
        clear hx
        obtain ⟨zk, hzz⟩ : ∃ zk, z k = zk := ⟨_, rfl⟩
        rw [hzz] at hcx
        by_cases h0 : zk = 0
        · have h0b : ((zk : Int) == 0) = true := by simp; omega
          have HH := Lib.hid (show hasZ z (k + 1) = true by rw [hasZ, hzz, decide_eq_true h0, Bool.or_true])
          clear hzz h0
          go_wp2
          go_round
          case rel => exact ⟨k + 1, by omega, by rw [HH.out], by go_num⟩
          case measure => simp [intOf]; omega
        · have h0b : ((zk : Int) == 0) = false := by simp; omega
          have HH := Lib.hid (show hasZ z (k + 1) = hasZ z k by rw [hasZ, hzz, decide_eq_false h0, Bool.or_false])
          clear hzz h0
          go_wp2
          go_round
          case rel => exact ⟨k + 1, by omega, by rw [HH.out], by go_num⟩
          case measure => simp [intOf]; omega
    · have hkb : ¬ (k : Int) < (len : Int) := by omega
      obtain rfl : k = len := by omega
      obtain ⟨hz, hzz⟩ : ∃ hz, hasZ z k = hz := ⟨_, rfl⟩
      rw [hzz]
      have HHZ := Lib.hid hzz
      clear hzz hkl hk
      by_cases hA : hz = true ∧ 65536 < T
      · obtain ⟨rfl, hA2⟩ := hA
        go_wp2
        go_ret
        exact ⟨rfl, Below.refl _ _⟩
      · have HCl := Lib.hid (clone_any a k cap z w (by omega) HS.out)
        have hAb : (hz && decide (65536 < T)) = false := by
          cases hz
          · rfl
          · simp at hA; simp [hA]
        have HAb := Lib.hid hA
        clear hA
        cases hz
        case' true => have hA' : ¬ 65536 < T := by have := HAb.out; simp at this; omega
        all_goals
          go_wp2_with fail
          refine HCl.out.mono ?_
          rintro e w1 ⟨a', rfl, hS1, hB1⟩
          have HS1 := Lib.hid hS1
          have HB1 := Lib.hid hB1
          clear hS1 hB1
          go_wp2
          go_loop [7, 8] (fun vt vk => ∃ j : Nat, j ≤ k ∧ vt = .int .i64 (tot z j : Int) ∧ vk = .int .i64 (j : Int)) (fun _ vk => k - (intOf vk).toNat)
          case atStart => exact ⟨0, by omega, rfl, rfl⟩
          case round =>
            obtain ⟨j, hj, rfl, rfl⟩ := hrel
            by_cases hjk : j < k
            · have hjb : (j : Int) < (k : Int) := by omega
              rcases HS1.out with ⟨_, h0⟩ | ⟨x, hxa, hx⟩
              · omega
              · subst hxa
                have hcx := hx j hjk
                clear hx
                have htl := tot_le z j
                have htl' := tot_le z (j + 1)
                have hzb := HZ.out j
                obtain ⟨zj, hzz⟩ : ∃ zj, z j = zj := ⟨_, rfl⟩
                rw [hzz] at hcx hzb
                obtain ⟨tj, htj⟩ : ∃ tj, tot z j = tj := ⟨_, rfl⟩
                by_cases h0 : zj = 0
                · have h0b : ((zj : Int) == 0) = true := by simp; omega
                  have HH := Lib.hid (show tot z (j + 1) = tj by rw [tot, hzz, if_pos h0, htj]; rfl)
                  rw [htj] at htl ⊢
                  clear hzz h0 htj htl'
                  go_wp2
                  go_round
                  case rel => exact ⟨j + 1, by omega, by rw [HH.out], by go_num⟩
                  case measure => simp [intOf]; omega
                · have h0b : ((zj : Int) == 0) = false := by simp; omega
                  have HFi := Lib.hid (fun w => fives_any zj w (by omega) hzb)
                  obtain ⟨fj, hfj⟩ : ∃ fj, fv zj = fj := ⟨_, rfl⟩
                  have HH := Lib.hid (show tot z (j + 1) = tj + fj by rw [tot, hzz, if_neg h0, htj, hfj])
                  have hfb : fj ≤ 28 := by rw [← hfj]; exact fvF_le 28 zj
                  rw [htj] at htl ⊢
                  rw [hfj] at HFi
                  clear hzz htj htl' hfj
                  go_wp2_with fail
                  refine (HFi.out _).mono ?_
                  rintro e w2 ⟨rfl, rfl⟩
                  go_wp2
                  go_round
                  case rel => exact ⟨j + 1, by omega, by rw [HH.out]; go_num, by go_num⟩
                  case measure => simp [intOf]; omega
            · have hjb : ¬ (j : Int) < (k : Int) := by omega
              obtain rfl : j = k := by omega
              have HDe := Lib.hid (decs_any a' j j z w1 (by omega) HS1.out)
              have hfin := tens_final T z j
              rw [HHZ.out] at hfin
              have htl := tot_le z j
              obtain ⟨tj, htj⟩ : ∃ tj, tot z j = tj := ⟨_, rfl⟩
              obtain ⟨G, hG⟩ : ∃ G, tensAns T z j = G := ⟨_, rfl⟩
              rw [htj] at hfin htl ⊢
              have HF := Lib.hid hfin
              have HG := Lib.hid hG
              clear htj hfin hG
              go_wp2_with fail
              refine HDe.out.mono ?_
              rintro e w2 ⟨rfl, hD2, hz2, hB2⟩
              have HTe := Lib.hid (zztens_any w1.heap.size j z T w2 hT1 hT2 (by omega) HZ.out hz2 hD2)
              have HB2 := Lib.hid (HB1.out.trans (hB2.mono HB1.out.size))
              clear hD2 hB2
              go_wp2_with fail
              refine HTe.out.mono ?_
              rintro e w3 ⟨rfl, hB3⟩
              have HB3 := Lib.hid (HB2.out.trans (hB3.mono HB2.out.size))
              clear hB3
              rw [HG.out]
              have hF := HF.out
              rw [HG.out] at hF
              clear hjk hj HG HF HTe HDe
              rcases (show ((19 : Int) < T ∧ T < (tj : Int)) ∨ ((19 : Int) < T ∧ ¬ T < (tj : Int) ∧ (19 : Int) < (tj : Int)) ∨ ((19 : Int) < T ∧ ¬ T < (tj : Int) ∧ ¬ (19 : Int) < (tj : Int)) ∨ (¬ (19 : Int) < T ∧ T < (tj : Int)) ∨ (¬ (19 : Int) < T ∧ ¬ T < (tj : Int) ∧ ¬ (19 : Int) < (tj : Int)) by omega) with ⟨q1, q2⟩ | ⟨q1, q2, q3⟩ | ⟨q1, q2, q3⟩ | ⟨q1, q2⟩ | ⟨q1, q2, q3⟩
              all_goals
                first | (simp [q1, q2] at hF; subst hF) | (simp [q1, q2, q3] at hF; subst hF)
                go_wp2
                go_ret
                exact ⟨rfl, HB3.out⟩
end Go.Proofs.Qxb6600385a
