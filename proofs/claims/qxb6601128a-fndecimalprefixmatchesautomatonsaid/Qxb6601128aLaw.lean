/-
  THE WALK of FnDecimalPrefixMatchesAutomaton.
-/
import Derived.Test.Qxb6601128aDp
namespace Go.Proofs.Qxb6601128a
open Go.RowKit

theorem zzprefix_any (s : ByteArray) (hs : s.size ≤ 1048576) (w : World) :
    Calls Try.prog 15 #[.string s] w fun e w' => e = .returned (.int .i64 (dp (byts s) : Int)) ∧ w' = w := by
  have HP := Lib.hid (prefix_any s hs)
  go_enter Try.func15, Try.ntmps15
  go_wp2_with (go_at_call 20; refine (HP.out _).mono ?_; rintro e w' ⟨rfl, rfl⟩)
  go_ret
  exact ⟨rfl, rfl⟩

set_option maxHeartbeats 400000 in
theorem law_walk (s : ByteArray) (hs : s.size ≤ maxLen) (w : World) :
    Calls Try.prog 6 #[.string s] w fun e w' => e = .returned (.bool true) ∧ Grown w w' := by
  unfold maxLen at hs
  by_cases h20 : 1048576 < s.size
  · have h20b : (1048576 : Int) < (s.size : Int) := by omega
    go_enter Try.func6, Try.ntmps6
    go_wp2
    go_ret
    exact ⟨rfl, Grown.refl _⟩
  · have h20b : ¬ (1048576 : Int) < (s.size : Int) := by omega
    have HP := Lib.hid (zzprefix_any s (by omega))
    have HM := Lib.hid (model_any s)
    have HM' := Lib.hid (fun w => HM.out w (by omega))
    rw [dp_mdl] at HP
    clear HM
    obtain ⟨n, hn⟩ : ∃ n, mdl 0 0 0 (byts s) = n := ⟨_, rfl⟩
    rw [hn] at HP HM'
    clear hn
    go_enter Try.func6, Try.ntmps6
    go_wp2_with (first | (go_at_call 15; refine (HP.out _).mono ?_; rintro e w' ⟨rfl, rfl⟩) | (go_at_call 16; refine (HM'.out _).mono ?_; rintro e w' ⟨rfl, rfl⟩) | go_in)
    go_ret
    exact ⟨rfl, Grown.refl _⟩
end Go.Proofs.Qxb6601128a
