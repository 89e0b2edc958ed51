/-
  THE WALK of FnStringOrdersLikeCoef.
-/
import Derived.Test.Qxb6600385aString
import Derived.Test.Qxb6600385aOrder
import Derived.Test.Qxb6600385aInj
namespace Go.Proofs.Qxb6600385a
open Go.RowKit Go.Sort Go.Lib

theorem ret_bool {a b : Bool} (h : a = b) : Ending.returned (.bool a) = .returned (.bool b) := by rw [h]

set_option maxHeartbeats 1000000 in
set_option maxRecDepth 100000 in
theorem ord_walk (a b s : Nat) (ha : a < 18446744073709551616) (hb : b < 18446744073709551616) (w : World) :
    Calls Try.prog 7 #[.int .u64 (a : Int), .int .u64 (b : Int), .int .u8 (s : Int)] w fun e w' => e = .returned (.bool true) ∧ Grown w w' := by
  by_cases k1 : 19 < s
  · have k1' : (19 : Int) < (s : Int) := by omega
    go_enter Try.func7, Try.ntmps7
    go_wp2
    go_ret
    exact ⟨rfl, Grown.refl _⟩
  have k1' : ¬ (19 : Int) < (s : Int) := by omega
  have hord := txt_order a b s
  have HO := Lib.hid hord
  clear hord
  go_enter Try.func7, Try.ntmps7
  go_wp2_with fail
  refine (zzdecimal_any _ _ _ _).mono ?_
  rintro e w1 ⟨rfl, cs1, hw1⟩
  have HG1 := Lib.hid (show Grown w w1 by rw [hw1]; exact (Grown.refl w).alloc _ _)
  clear hw1
  go_wp2_with fail
  refine (string_at _ _ a s false _ rfl rfl ha (by omega)).mono ?_
  rintro e w2 ⟨rfl, hg2⟩
  have HG2 := Lib.hid (grown_trans HG1.out hg2)
  clear hg2
  obtain ⟨A, hA⟩ : ∃ A : ByteArray, A = ⟨(txt a s false).toArray⟩ := ⟨_, rfl⟩
  rw [← hA]
  have HA := Lib.hid hA
  clear hA
  go_wp2_with fail
  refine (zzdecimal_any _ _ _ _).mono ?_
  rintro e w3 ⟨rfl, cs3, hw3⟩
  have HG3 := Lib.hid (show Grown w w3 by rw [hw3]; exact HG2.out.alloc _ _)
  clear hw3
  go_wp2_with fail
  refine (string_at _ _ b s false _ rfl rfl hb (by omega)).mono ?_
  rintro e w4 ⟨rfl, hg4⟩
  have HG4 := Lib.hid (grown_trans HG3.out hg4)
  clear hg4
  obtain ⟨B, hB⟩ : ∃ B : ByteArray, B = ⟨(txt b s false).toArray⟩ := ⟨_, rfl⟩
  rw [← hB]
  have HB := Lib.hid hB
  clear hB
  have lA : A.size = (txt a s false).length := by rw [HA.out]; rfl
  have lB : B.size = (txt b s false).length := by rw [HB.out]; rfl
  have tA : A.toList = txt a s false := by rw [HA.out, Lib.toList_data]
  have tB : B.toList = txt b s false := by rw [HB.out, Lib.toList_data]
  have hO := HO.out
  rw [← lA, ← lB, ← tA, ← tB] at hO
  clear lA lB tA tB
  rcases Nat.lt_trichotomy A.size B.size with h | h | h
  · have h1 : (A.size : Int) < (B.size : Int) := by omega
    rw [decide_eq_true h, Bool.true_or] at hO
    have hab : (a : Int) < (b : Int) := by have := of_decide_eq_true hO.symm; omega
    clear hO h
    go_wp2
    go_ret
    exact ⟨rfl, HG4.out⟩
  · have h0 : ¬ (A.size : Int) < (B.size : Int) := by omega
    have h1 : ((A.size : Int) == (B.size : Int)) = true := by simp; omega
    have hn : ¬ A.size < B.size := by omega
    rw [decide_eq_false hn, decide_eq_true h, Bool.false_or, Bool.true_and] at hO
    have hL : Op.bytesLess A.toList B.toList = decide ((a : Int) < (b : Int)) := by rw [hO]; simp
    obtain ⟨L, hLL⟩ : ∃ L, Op.bytesLess A.toList B.toList = L := ⟨_, rfl⟩
    rw [hLL] at hL
    have HL := Lib.hid hL
    clear hO h hn hL
    go_wp2
    go_ret
    refine ⟨ret_bool (a := ((decide (A.size < B.size) || L) == decide (a < b))) ?_, HG4.out⟩
    rw [decide_eq_false (by omega), Bool.false_or, HL.out]
    simp
  · have h0 : ¬ (A.size : Int) < (B.size : Int) := by omega
    have h1 : ((A.size : Int) == (B.size : Int)) = false := by simp; omega
    have hn : ¬ A.size < B.size := by omega
    have hn' : ¬ A.size = B.size := by omega
    rw [decide_eq_false hn, decide_eq_false hn', Bool.false_or, Bool.false_and] at hO
    have hab : ¬ (a : Int) < (b : Int) := by have := of_decide_eq_false hO.symm; omega
    clear hO h hn hn'
    go_wp2
    go_ret
    refine ⟨ret_bool (a := (decide (A.size < B.size) == decide (a < b))) ?_, HG4.out⟩
    rw [decide_eq_false (by omega), decide_eq_false (by omega)]
    rfl
end Go.Proofs.Qxb6600385a
