/-
  THE PLAIN LAW of seat b6600385a: the text of a decimal as a list of bytes. No Go in sight.
-/
import Derived.Lib.ItoaNum
namespace Go.Proofs.Qxb6600385a
open Go.Lib

/-- The n low decimal digits of c, the highest ahead. -/
def frac (c : Nat) : Nat → List UInt8
  | 0 => []
  | n + 1 => frac (c / 10) n ++ [UInt8.ofNat (48 + c % 10)]

/-- What stands behind the integer digits. -/
def tailOf (c s : Nat) : List UInt8 := if s = 0 then [] else 46 :: frac c s

/-- The text without its sign. -/
def body (c s : Nat) : List UInt8 := decDigits (c / 10 ^ s) ++ tailOf c s

/-- The text. -/
def txt (c s : Nat) (neg : Bool) : List UInt8 := if neg then 45 :: body c s else body c s

theorem frac_length (c n : Nat) : (frac c n).length = n := by
  induction n generalizing c with
  | zero => rfl
  | succ n ih => simp [frac, ih]

theorem frac_cons (c n : Nat) : frac c (n + 1) = UInt8.ofNat (48 + c / 10 ^ n % 10) :: frac c n := by
  induction n generalizing c with
  | zero => simp [frac]
  | succ n ih =>
    rw [frac, ih (c / 10)]
    simp only [List.cons_append, frac]
    congr 3
    rw [Nat.pow_succ, Nat.mul_comm, Nat.div_div_eq_div_mul]

theorem frac_cons2 (c n : Nat) : frac c (n + 2) = sm (c / 10 ^ n % 100 * 2) :: sm (c / 10 ^ n % 100 * 2 + 1) :: frac c n := by
  rw [frac_cons, frac_cons, sm_hi _ (by omega), sm_lo _ (by omega)]
  have e : c / 10 ^ (n + 1) = c / 10 ^ n / 10 := by rw [Nat.pow_succ, Nat.div_div_eq_div_mul]
  rw [e]
  congr 2
  · omega
  · congr 2; omega

theorem div_pow_succ2 (c n : Nat) : c / 10 ^ n / 100 = c / 10 ^ (n + 2) := by
  rw [Nat.div_div_eq_div_mul, Nat.pow_add]
theorem div_pow_succ1 (c n : Nat) : c / 10 ^ n / 10 = c / 10 ^ (n + 1) := by
  rw [Nat.div_div_eq_div_mul, Nat.pow_succ]

theorem dec_big (v : Nat) (h : 100 ≤ v) : decDigits v = decDigits (v / 100) ++ [sm (v % 100 * 2), sm (v % 100 * 2 + 1)] := by
  rw [decDigits, dif_neg (by omega), decDigits, dif_neg (by omega), sm_hi _ (by omega), sm_lo _ (by omega), Nat.div_div_eq_div_mul]
  simp only [List.append_assoc, List.singleton_append]
  congr 3
  · congr 1; omega
  · congr 2; omega

theorem dec_two (v : Nat) (h1 : 10 ≤ v) (h2 : v < 100) : decDigits v = [sm (v * 2), sm (v * 2 + 1)] := by
  rw [decDigits_two (by omega) h2, sm_hi _ h2, sm_lo _ h2]

theorem nDigits_le (k u : Nat) (hk : 1 ≤ k) (h : u < 10 ^ k) : nDigits u ≤ k := by
  induction k generalizing u with
  | zero => omega
  | succ k ih =>
    by_cases h10 : u < 10
    · rw [nDigits_small h10]; omega
    · rw [nDigits_big h10]
      rw [Nat.pow_succ] at h
      have hk1 : 1 ≤ k := by
        rcases Nat.eq_zero_or_pos k with rfl | h'
        · simp at h; omega
        · exact h'
      have := ih (u / 10) hk1 (by omega)
      omega

theorem pow10_le_of_nDigits (u k : Nat) (h : k + 1 ≤ nDigits u) (hk : 1 ≤ k) : 10 ^ k ≤ u := by
  rcases Nat.lt_or_ge u (10 ^ k) with h' | h'
  · have := nDigits_le k u hk h'; omega
  · exact h'

theorem dec_len3 (v : Nat) (h : 100 ≤ v) : 3 ≤ (decDigits v).length := by
  rw [dec_big v h]
  have := nDigits_pos (v / 100)
  rw [List.length_append, decDigits_length]
  simp; omega

theorem dec_len1 (v : Nat) : 1 ≤ (decDigits v).length := by rw [decDigits_length]; exact nDigits_pos v

theorem tailOf_length (c s : Nat) : (tailOf c s).length = if s = 0 then 0 else s + 1 := by
  unfold tailOf; split <;> simp [frac_length]

theorem body_len (c s : Nat) (hc : c < 18446744073709551616) (hs : s ≤ 19) : (body c s).length ≤ 21 := by
  unfold body
  rw [List.length_append, decDigits_length, tailOf_length]
  have hlt : c / 10 ^ s < 10 ^ (20 - s) := by
    apply Nat.div_lt_of_lt_mul
    rw [← Nat.pow_add, show s + (20 - s) = 20 by omega]
    omega
  have := nDigits_le (20 - s) (c / 10 ^ s) (by omega) hlt
  split <;> omega

theorem txt_len (c s : Nat) (neg : Bool) (hc : c < 18446744073709551616) (hs : s ≤ 19) : (txt c s neg).length ≤ 22 := by
  have := body_len c s hc hs
  unfold txt
  cases neg <;> simp <;> omega

end Go.Proofs.Qxb6600385a
