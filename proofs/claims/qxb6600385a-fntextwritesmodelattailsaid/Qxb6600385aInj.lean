/-
  THE WALK of FnStringInjective.
-/
import Derived.Test.Qxb6600385aString
import Derived.Test.Qxb6600385aLaws
import Derived.OpenShut
import Derived.Lib.Strings
namespace Go.Proofs.Qxb6600385a
open Go.RowKit Go.Sort Go.Lib

theorem grown_trans {a b c : World} (h : Grown a b) (k : Grown b c) : Grown a c := by
  obtain ⟨h1, h2, h3⟩ := h
  obtain ⟨k1, k2, k3⟩ := k
  refine ⟨World.keptBut_trans h1 k1, fun x => (k2 x).trans (h2 x), Nat.le_trans h3 k3⟩

theorem u64_nat {a : Int} (h : (Lit.int .u64 a).wf = true) : ∃ n : Nat, a = (n : Int) ∧ n < 18446744073709551616 := by
  have := bounds_u64 h
  exact ⟨a.toNat, by omega, by omega⟩
theorem u8_nat {a : Int} (h : (Lit.int .u8 a).wf = true) : ∃ n : Nat, a = (n : Int) ∧ n < 256 := by
  have := bounds_u8 h
  exact ⟨a.toNat, by omega, by omega⟩

theorem str_ne {A B : ByteArray} (h : ¬ A = B) : (A.toList == B.toList) = false := by
  rw [beq_eq_false_iff_ne, Lib.toList_data, Lib.toList_data]
  intro e
  apply h
  cases A; cases B
  simpa using e

set_option maxHeartbeats 1000000 in
set_option maxRecDepth 100000 in
theorem inj_walk (c1 s1 : Nat) (n1 : Bool) (c2 s2 : Nat) (n2 : Bool) (h1 : c1 < 18446744073709551616) (h2 : c2 < 18446744073709551616) (w : World) :
    Calls Try.prog 6 #[.int .u64 (c1 : Int), .int .u8 (s1 : Int), .bool n1, .int .u64 (c2 : Int), .int .u8 (s2 : Int), .bool n2] w fun e w' => e = .returned (.bool true) ∧ Grown w w' := by
  by_cases k1 : 19 < s1
  · have k1' : (19 : Int) < (s1 : Int) := by omega
    go_enter Try.func6, Try.ntmps6
    go_wp2
    go_ret
    exact ⟨rfl, Grown.refl _⟩
  by_cases k2 : 19 < s2
  · have k1' : ¬ (19 : Int) < (s1 : Int) := by omega
    have k2' : (19 : Int) < (s2 : Int) := by omega
    go_enter Try.func6, Try.ntmps6
    go_wp2
    go_ret
    exact ⟨rfl, Grown.refl _⟩
  have k1' : ¬ (19 : Int) < (s1 : Int) := by omega
  have k2' : ¬ (19 : Int) < (s2 : Int) := by omega
  go_enter Try.func6, Try.ntmps6
  go_wp2_with fail
  refine (zzdecimal_any _ _ _ _).mono ?_
  rintro e w1 ⟨rfl, cs1, hw1⟩
  have HG1 := Lib.hid (show Grown w w1 by rw [hw1]; exact (Grown.refl w).alloc _ _)
  clear hw1
  go_wp2_with fail
  refine (string_at _ _ c1 s1 n1 _ rfl rfl h1 (by omega)).mono ?_
  rintro e w2 ⟨rfl, hg2⟩
  have HG2 := Lib.hid (grown_trans HG1.out hg2)
  clear hg2
  obtain ⟨A, hA⟩ : ∃ A : ByteArray, A = ⟨(txt c1 s1 n1).toArray⟩ := ⟨_, rfl⟩
  rw [← hA]
  have HA := Lib.hid hA
  clear hA
  go_wp2_with fail
  refine (zzdecimal_any _ _ _ _).mono ?_
  rintro e w3 ⟨rfl, cs3, hw3⟩
  have HG3 := Lib.hid (show Grown w w3 by rw [hw3]; exact HG2.out.alloc _ _)
  clear hw3
  go_wp2_with fail
  refine (string_at _ _ c2 s2 n2 _ rfl rfl h2 (by omega)).mono ?_
  rintro e w4 ⟨rfl, hg4⟩
  have HG4 := Lib.hid (grown_trans HG3.out hg4)
  clear hg4
  obtain ⟨B, hB⟩ : ∃ B : ByteArray, B = ⟨(txt c2 s2 n2).toArray⟩ := ⟨_, rfl⟩
  rw [← hB]
  have HB := Lib.hid hB
  clear hB
  by_cases hAB : A = B
  · have hab : txt c1 s1 n1 = txt c2 s2 n2 := by
      have := (HA.out.symm.trans hAB).trans HB.out
      simpa using this
    obtain ⟨rfl, rfl, rfl⟩ := txt_inj hab
    clear hab HA HB
    subst hAB
    go_wp2
    go_ret
    exact ⟨rfl, HG4.out⟩
  · have hne := str_ne hAB
    go_wp2
    go_ret
    exact ⟨rfl, HG4.out⟩
end Go.Proofs.Qxb6600385a
