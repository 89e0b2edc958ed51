/-
  THE WALK of FnStringMatchesModel.
-/
import Derived.Test.Qxb6600385aModel
import Derived.Test.Qxb6600385aInj
namespace Go.Proofs.Qxb6600385a
open Go.RowKit Go.Sort Go.Lib

set_option maxHeartbeats 1000000 in
set_option maxRecDepth 100000 in
theorem match_walk (c s : Nat) (neg : Bool) (hc : c < 18446744073709551616) (w : World) :
    Calls Try.prog 5 #[.int .u64 (c : Int), .int .u8 (s : Int), .bool neg] w fun e w' => e = .returned (.bool true) ∧ Grown w w' := by
  by_cases k1 : 19 < s
  · have k1' : (19 : Int) < (s : Int) := by omega
    go_enter Try.func5, Try.ntmps5
    go_wp2
    go_ret
    exact ⟨rfl, Grown.refl _⟩
  have k1' : ¬ (19 : Int) < (s : Int) := by omega
  go_enter Try.func5, Try.ntmps5
  go_wp2_with fail
  refine (zzdecimal_any _ _ _ _).mono ?_
  rintro e w1 ⟨rfl, cs1, hw1⟩
  have HG1 := Lib.hid (show Grown w w1 by rw [hw1]; exact (Grown.refl w).alloc _ _)
  clear hw1
  go_wp2_with fail
  refine (string_at _ _ c s neg _ rfl rfl hc (by omega)).mono ?_
  rintro e w2 ⟨rfl, hg2⟩
  have HG2 := Lib.hid (grown_trans (HG1.out.alloc _ _) hg2)
  clear hg2
  obtain ⟨A, hA⟩ : ∃ A : ByteArray, A = ⟨(txt c s neg).toArray⟩ := ⟨_, rfl⟩
  rw [← hA]
  have HA := Lib.hid hA
  clear hA
  go_wp2_with fail
  refine (model_any c s neg _ hc (by omega)).mono ?_
  rintro e w3 ⟨rfl, hg3⟩
  have HG3 := Lib.hid (grown_trans HG2.out hg3)
  clear hg3
  rw [← HA.out]
  go_wp2
  go_ret
  exact ⟨rfl, HG3.out⟩
end Go.Proofs.Qxb6600385a
