/-
  THE PLAIN LAW of tensOf: exponents of 5. No Go in sight.
-/
import Derived.Lib.ItoaNum
namespace Go.Proofs.Qxb6600385a

/-- The exponent of 5 in c, looked for n times. -/
def fvF : Nat → Nat → Nat
  | 0, _ => 0
  | n + 1, c => if c % 5 = 0 then fvF n (c / 5) + 1 else 0

/-- The exponent of 5 in c (0 < c < 2^64). -/
def fv (c : Nat) : Nat := fvF 28 c

/-- k is the exponent of 5 in c. -/
def IsFv (c k : Nat) : Prop := c % 5 ^ k = 0 ∧ ¬ c % 5 ^ (k + 1) = 0

theorem mod_pow_succ (c k : Nat) : c % 5 ^ (k + 1) = 0 ↔ c % 5 = 0 ∧ c / 5 % 5 ^ k = 0 := by
  rw [Nat.pow_succ, Nat.mul_comm, Nat.mod_mul]
  constructor
  · intro h; constructor <;> omega
  · rintro ⟨h1, h2⟩; rw [h1, h2]

theorem isFv_fvF : ∀ (n c : Nat), 0 < c → c < 5 ^ n → IsFv c (fvF n c)
  | 0, c, h, h1 => by simp at h1; omega
  | n + 1, c, h, h1 => by
    unfold fvF
    by_cases h5 : c % 5 = 0
    · rw [if_pos h5]
      have hc : 0 < c / 5 := by omega
      have hl : c / 5 < 5 ^ n := by rw [Nat.pow_succ] at h1; omega
      obtain ⟨i1, i2⟩ := isFv_fvF n (c / 5) hc hl
      exact ⟨(mod_pow_succ _ _).2 ⟨h5, i1⟩, fun e => i2 ((mod_pow_succ _ _).1 e).2⟩
    · rw [if_neg h5]
      exact ⟨by simp [Nat.mod_one], fun e => h5 (by simpa using e)⟩

theorem fvF_le : ∀ (n c : Nat), fvF n c ≤ n
  | 0, _ => Nat.le_refl _
  | n + 1, c => by
    unfold fvF
    split
    · have := fvF_le n (c / 5); omega
    · omega

theorem isFv_fv (c : Nat) (h : 0 < c) (h1 : c < 18446744073709551616) : IsFv c (fv c) :=
  isFv_fvF 28 c h (by have : (5 : Nat) ^ 28 = 37252902984619140625 := by decide
                      omega)

theorem mod_pow_mono (c j k : Nat) (h : j ≤ k) (hk : c % 5 ^ k = 0) : c % 5 ^ j = 0 := by
  obtain ⟨d, rfl⟩ : ∃ d, k = j + d := ⟨k - j, by omega⟩
  have h1 : 5 ^ (j + d) ∣ c := Nat.dvd_of_mod_eq_zero hk
  exact Nat.mod_eq_zero_of_dvd (Nat.dvd_trans ⟨5 ^ d, Nat.pow_add 5 j d⟩ h1)

theorem IsFv.unique {c j k : Nat} (h : IsFv c j) (h' : IsFv c k) : j = k := by
  rcases Nat.lt_trichotomy j k with l | l | l
  · exact absurd (mod_pow_mono c (j + 1) k l h'.1) h.2
  · exact l
  · exact absurd (mod_pow_mono c (k + 1) j l h.1) h'.2

theorem fv_div (c : Nat) (h : 0 < c) (h1 : c < 18446744073709551616) (h5 : c % 5 = 0) : fv c = fv (c / 5) + 1 := by
  have a := isFv_fv (c / 5) (by omega) (by omega)
  have b := isFv_fv c h h1
  refine b.unique ⟨(mod_pow_succ _ _).2 ⟨h5, a.1⟩, fun e => a.2 ((mod_pow_succ _ _).1 e).2⟩

theorem fv_none (c : Nat) (h5 : ¬ c % 5 = 0) : fv c = 0 := by
  unfold fv fvF
  rw [if_neg h5]

/-- fivesIn's loop: k is the greatest below j for which 5^k divides c. -/
structure FvInv (c j k p : Nat) : Prop where
  pow : p = 5 ^ (j - 1)
  lt : k < j
  dvd : c % 5 ^ k = 0
  none : ∀ t, k < t → t < j → ¬ c % 5 ^ t = 0

theorem FvInv.start (c : Nat) : FvInv c 1 0 1 := ⟨rfl, by omega, by simp [Nat.mod_one], fun t h1 h2 => by omega⟩
theorem FvInv.p5 {c j k p : Nat} (h : FvInv c j k p) : p * 5 = 5 ^ j := by
  have := h.lt
  rw [h.pow, ← Nat.pow_succ]
  congr 1
  omega
theorem FvInv.hit {c j k p : Nat} (h : FvInv c j k p) (hd : c % (p * 5) = 0) : FvInv c (j + 1) j (p * 5) := by
  have e := h.p5
  rw [e] at hd ⊢
  exact ⟨by simp, by omega, hd, fun t h1 h2 => by omega⟩
theorem FvInv.miss {c j k p : Nat} (h : FvInv c j k p) (hd : ¬ c % (p * 5) = 0) : FvInv c (j + 1) k (p * 5) := by
  have e := h.p5
  rw [e] at hd ⊢
  refine ⟨by simp, by have := h.lt; omega, h.dvd, fun t h1 h2 => ?_⟩
  by_cases ht : t = j
  · subst ht; exact hd
  · exact h.none t h1 (by omega)
theorem FvInv.done {c k p : Nat} (h : FvInv c 28 k p) (h0 : 0 < c) (h1 : c < 18446744073709551616) : k = fv c := by
  refine IsFv.unique ⟨h.dvd, ?_⟩ (isFv_fv c h0 h1)
  have hk := h.lt
  by_cases e : k = 27
  · subst e
    have h28 : (5 : Nat) ^ (27 + 1) = 37252902984619140625 := by decide
    rw [h28, Nat.mod_eq_of_lt (by omega)]
    omega
  · exact h.none (k + 1) (by omega) (by omega)
theorem FvInv.bound {c j k p : Nat} (h : FvInv c j k p) (hj : j ≤ 28) : p ≤ 7450580596923828125 ∧ 1 ≤ p := by
  rw [h.pow]
  constructor
  · have : 5 ^ (j - 1) ≤ 5 ^ 27 := Nat.pow_le_pow_right (by decide) (by omega)
    have e : (5 : Nat) ^ 27 = 7450580596923828125 := by decide
    omega
  · exact Nat.one_le_pow _ _ (by decide)
theorem FvInv.bound5 {c j k p : Nat} (h : FvInv c j k p) (hj : j ≤ 27) : p * 5 ≤ 7450580596923828125 := by
  rw [h.p5]
  have : 5 ^ j ≤ 5 ^ 27 := Nat.pow_le_pow_right (by decide) hj
  have e : (5 : Nat) ^ 27 = 7450580596923828125 := by decide
  omega

/-! ### tensOf -/

/-- What one coefficient makes of the count f of 5s, T the count of 2s. -/
def goal (T c f : Nat) : Nat := if c = 0 then T else min T (f + fv c)

theorem goal_step (T c f : Nat) (hc : c < 18446744073709551616) (h5 : c % 5 = 0) : goal T (c / 5) (f + 1) = goal T c f := by
  unfold goal
  by_cases h0 : c = 0
  · subst h0; rfl
  · rw [if_neg h0, if_neg (by omega), fv_div c (by omega) hc h5]
    congr 1
    omega
theorem goal_full (T c f : Nat) (hf : f = T) : goal T c f = f := by
  subst hf
  unfold goal
  split
  · rfl
  · omega
theorem goal_none (T c f : Nat) (hf : f ≤ T) (h5 : ¬ c % 5 = 0) : goal T c f = f := by
  unfold goal
  rw [if_neg (by omega), fv_none c h5]
  omega
theorem goal_le (T c f : Nat) : goal T c f ≤ T := by unfold goal; split <;> omega

def tens (T : Nat) (z : Nat → Nat) : Nat → Nat
  | 0 => 0
  | k + 1 => goal T (z k) (tens T z k)
def tot (z : Nat → Nat) : Nat → Nat
  | 0 => 0
  | k + 1 => tot z k + if z k = 0 then 0 else fv (z k)
def hasZ (z : Nat → Nat) : Nat → Bool
  | 0 => false
  | k + 1 => hasZ z k || decide (z k = 0)

theorem tens_le (T : Nat) (z : Nat → Nat) (k : Nat) : tens T z k ≤ T := by
  cases k with
  | zero => exact Nat.zero_le _
  | succ k => exact goal_le _ _ _
theorem tot_le (z : Nat → Nat) (k : Nat) : tot z k ≤ 28 * k := by
  induction k with
  | zero => exact Nat.le_refl _
  | succ k ih =>
    unfold tot
    have := fvF_le 28 (z k)
    unfold fv
    split <;> omega

/-- THE CLOSED FORM. -/
theorem tens_closed (T : Nat) (z : Nat → Nat) (k : Nat) : tens T z k = if hasZ z k then T else min T (tot z k) := by
  induction k with
  | zero => simp [tens, hasZ, tot]
  | succ k ih =>
    rw [tens, ih, hasZ, tot]
    unfold goal
    by_cases h0 : z k = 0
    · simp [h0]
    · rw [if_neg h0, if_neg h0, decide_eq_false h0, Bool.or_false]
      by_cases hz : hasZ z k = true
      · rw [if_pos hz, if_pos hz]; omega
      · rw [if_neg hz, if_neg hz]; omega

end Go.Proofs.Qxb6600385a
