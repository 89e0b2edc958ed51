/-
  THE WALKS of digitsAt, strings.HasPrefix (at the constant), decimalPrefix.
-/
import Derived.Test.Qxb6601128aAuto
import Derived.Lib.Strings
import Derived.Deep.DeepCutAuto
namespace Go.Proofs.Qxb6601128a
open Go.RowKit

set_option maxHeartbeats 1000000 in
set_option maxRecDepth 100000 in
theorem digitsAt_any (s : ByteArray) (I : Int) (i : Nat) (hI : I = (i : Int)) (hi : i ≤ s.size) (hs : s.size ≤ 1048576) (w : World) :
    Calls Try.prog 25 #[.string s, .int .i64 I] w fun e w' => e = .returned (.int .i64 (dgs ((byts s).drop i) : Int)) ∧ w' = w := by
  subst hI
  go_enter Try.func25, Try.ntmps25
  go_wp2
  go_loop [5] (fun vk => ∃ k : Nat, i + k ≤ s.size ∧ vk = .int .i64 (k : Int) ∧ Hid (k + dgs ((byts s).drop (i + k)) = dgs ((byts s).drop i))) (fun vk => s.size - (intOf vk).toNat)
  case atStart => exact ⟨0, by omega, rfl, by show _ = _; simp⟩
  case round =>
    obtain ⟨k, hk, rfl, HK⟩ := hrel
    by_cases hlt : i + k < s.size
    · have hltb : (i : Int) + (k : Int) < (s.size : Int) := by omega
      have hix := idx_at s (i + k) ((i : Int) + (k : Int)) (by omega) hlt
      have hdr := drop_at s (i + k) hlt
      have hk2 := HK.out
      rw [hdr, dgs_cons] at hk2
      obtain ⟨c, hc⟩ : ∃ c, (byts s).getD (i + k) 0 = c := ⟨_, rfl⟩
      rw [hc] at hix hk2
      clear hc hdr
      by_cases h1 : 48 ≤ c
      · have h1b : (48 : Int) ≤ (c : Int) := by omega
        by_cases h2 : c ≤ 57
        · have h2b : (c : Int) ≤ 57 := by omega
          rw [if_pos ((dig_iff c).2 ⟨h1, h2⟩)] at hk2
          have HK2 := Lib.hid hk2
          clear hk2
          go_wp2
          go_round
          case rel => exact ⟨k + 1, by omega, by go_num, by show _ = _; rw [← HK2.out, show i + (k + 1) = i + k + 1 by omega]; omega⟩
          case measure => simp [intOf]; omega
        · have h2b : ¬ (c : Int) ≤ 57 := by omega
          rw [if_neg (by rw [dig_iff]; omega)] at hk2
          have HK2 := Lib.hid hk2
          clear hk2
          go_wp2
          go_ret
          exact ⟨ret_i (by have := HK2.out; omega), rfl⟩
      · have h1b : ¬ (48 : Int) ≤ (c : Int) := by omega
        rw [if_neg (by rw [dig_iff]; omega)] at hk2
        have HK2 := Lib.hid hk2
        clear hk2
        go_wp2
        go_ret
        exact ⟨ret_i (by have := HK2.out; omega), rfl⟩
    · have hltb : ¬ (i : Int) + (k : Int) < (s.size : Int) := by omega
      have hk2 := HK.out
      rw [List.drop_of_length_le (by rw [byts_length]; omega)] at hk2
      have HK2 := Lib.hid hk2
      clear hk2
      go_wp2
      go_ret
      exact ⟨ret_i (by have := HK2.out; simp [dgs] at this; omega), rfl⟩

theorem inf_eq (t : ByteArray) : ((t.extract 0 8).toList == [73, 110, 102, 105, 110, 105, 116, 121]) = decide ((byts t).take 8 = infL) := by
  have e1 : (t.extract 0 8).toList = t.data.toList.take 8 := by
    rw [Lib.extract_toList]
    simp
  have e2 : (byts t).take 8 = (t.data.toList.take 8).map (·.toNat) := by unfold byts; rw [List.map_take]
  rw [e1, e2]
  have inj : ∀ a b : UInt8, a.toNat = b.toNat → a = b := fun a b h => UInt8.toNat_inj.1 h
  rw [Bool.eq_iff_iff]
  simp only [beq_iff_eq, decide_eq_true_eq]
  constructor
  · intro h; rw [h]; rfl
  · intro h
    have h' : (t.data.toList.take 8).map (·.toNat) = ([73, 110, 102, 105, 110, 105, 116, 121] : List UInt8).map (·.toNat) := h
    exact (List.map_inj_right inj).1 h'

set_option maxHeartbeats 1000000 in
set_option maxRecDepth 100000 in
theorem hasInf_any (t : ByteArray) (ht : t.size ≤ 1048576) (w : World) :
    Calls Try.prog 24 #[.string t, .string ⟨#[73, 110, 102, 105, 110, 105, 116, 121]⟩] w fun e w' => e = .returned (.bool (decide ((byts t).take 8 = infL))) ∧ w' = w := by
  by_cases h8 : 8 ≤ t.size
  · have h8b : (8 : Int) ≤ (t.size : Int) := by omega
    go_enter Try.func24, Try.ntmps24
    have HE := Lib.hid (inf_eq t)
    go_wp2
    go_ret
    exact ⟨ret_b HE.out, rfl⟩
  · have h8b : ¬ (8 : Int) ≤ (t.size : Int) := by omega
    have HN := Lib.hid (show ¬ (byts t).take 8 = infL from fun e => by
      have := congrArg List.length e
      rw [List.length_take, byts_length] at this
      simp [infL] at this
      omega)
    go_enter Try.func24, Try.ntmps24
    go_wp2
    go_ret
    exact ⟨ret_b (by rw [decide_eq_false HN.out]), rfl⟩
end Go.Proofs.Qxb6601128a
