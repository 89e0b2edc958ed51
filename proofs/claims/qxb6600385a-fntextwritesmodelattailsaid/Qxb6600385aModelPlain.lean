/-
  THE PLAIN LAW of modelText: what its second loop writes is the text. No Go in sight.
-/
import Derived.Test.Qxb6600385aRow
import Derived.Test.Qxb6600385aLaws
namespace Go.Proofs.Qxb6600385a
open Go.Lib Go.Sort

/-- What modelText's second loop still writes when its counter stands at k - 1. -/
def rest (c s : Nat) : Nat → List UInt8
  | 0 => []
  | k + 1 => (if 0 < s ∧ k + 1 = s then [46] else []) ++ dg c k :: rest c s k

theorem rest_dot (c s k : Nat) (h : 0 < s ∧ k + 1 = s) : rest c s (k + 1) = 46 :: dg c k :: rest c s k := by
  rw [rest, if_pos h]; rfl
theorem rest_nodot (c s k : Nat) (h : ¬ (0 < s ∧ k + 1 = s)) : rest c s (k + 1) = dg c k :: rest c s k := by
  rw [rest, if_neg h]; rfl

theorem rest_len (c s k : Nat) : k ≤ (rest c s k).length := by
  induction k with
  | zero => simp
  | succ k ih => rw [rest, List.length_append, List.length_cons]; omega

theorem rest_low (c s k : Nat) (h : k < s) : rest c s k = frac c k := by
  induction k with
  | zero => rfl
  | succ k ih =>
    rw [rest_nodot c s k (by omega), ih (by omega), frac_cons]
    rfl

theorem rest_tail (c s : Nat) : rest c s s = tailOf c s := by
  unfold tailOf
  cases s with
  | zero => rfl
  | succ s =>
    rw [rest_dot c (s + 1) s ⟨by omega, rfl⟩, rest_low c (s + 1) s (by omega), if_neg (by omega), frac_cons]
    rfl

theorem rest_high (c s j : Nat) : rest c s (s + j) = frac (c / 10 ^ s) j ++ tailOf c s := by
  induction j with
  | zero => simpa [frac] using rest_tail c s
  | succ j ih =>
    rw [show s + (j + 1) = (s + j) + 1 by omega, rest_nodot c s (s + j) (by omega), ih, frac_cons]
    simp only [dg, List.cons_append]
    rw [Nat.div_div_eq_div_mul, ← Nat.pow_add]

theorem frac_dec : ∀ (j q : Nat), 1 ≤ j → q < 10 ^ j → (j = 1 ∨ 10 ^ (j - 1) ≤ q) → frac q j = decDigits q
  | 0, _, h, _, _ => by omega
  | j + 1, q, _, h1, h2 => by
    by_cases h10 : q < 10
    · have hj : j = 0 := by
        rcases h2 with h | h
        · omega
        · rcases Nat.eq_zero_or_pos j with h' | h'
          · exact h'
          · have : 10 ^ 1 ≤ 10 ^ j := Nat.pow_le_pow_right (by decide) h'
            simp at h; omega
      subst hj
      rw [decDigits_one h10, frac, frac, Nat.mod_eq_of_lt h10]
      rfl
    · have hj : 1 ≤ j := by
        rcases Nat.eq_zero_or_pos j with h' | h'
        · subst h'; simp at h1; omega
        · exact h'
      rw [frac, decDigits, dif_neg h10, frac_dec j (q / 10) hj (by rw [Nat.pow_succ] at h1; omega) ?_]
      rcases h2 with h | h
      · omega
      · by_cases e : j = 1
        · exact .inl e
        · right
          rw [show j + 1 - 1 = (j - 1) + 1 by omega, Nat.pow_succ] at h
          omega

/-- The digits of modelText's first loop: n of them. -/
theorem rest_body (c s n W : Nat) (hn : 1 ≤ n) (h1 : c < 10 ^ n) (h2 : n = 1 ∨ 10 ^ (n - 1) ≤ c) (hW : W = if 0 < s ∧ n < s + 1 then s + 1 else n) : rest c s W = body c s := by
  unfold body
  have hp : 0 < 10 ^ s := Nat.pos_of_ne_zero (by simp)
  by_cases h : 0 < s ∧ n < s + 1
  · rw [if_pos h] at hW
    have hq : c / 10 ^ s = 0 := by
      apply Nat.div_eq_of_lt
      have : 10 ^ n ≤ 10 ^ s := Nat.pow_le_pow_right (by decide) (by omega)
      omega
    rw [hW, rest_high, hq, frac_dec 1 0 (by omega) (by decide) (.inl rfl)]
  · rw [if_neg h] at hW
    obtain ⟨j, rfl⟩ : ∃ j, n = s + j := ⟨n - s, by omega⟩
    have hj : 1 ≤ j := by omega
    rw [hW, rest_high, frac_dec j (c / 10 ^ s) hj]
    · apply Nat.div_lt_of_lt_mul
      rw [← Nat.pow_add]
      exact h1
    · by_cases e : j = 1
      · exact .inl e
      · right
        rcases h2 with h2 | h2
        · omega
        · rw [Nat.le_div_iff_mul_le hp, ← Nat.pow_add, show j - 1 + s = s + j - 1 by omega]
          exact h2

/-- Above its digits a number has zeros. -/
theorem dg_high (c n k : Nat) (h : c < 10 ^ n) (hk : n ≤ k) : dg c k = 48 := by
  unfold dg
  have : 10 ^ n ≤ 10 ^ k := Nat.pow_le_pow_right (by decide) hk
  rw [Nat.div_eq_of_lt (by omega)]
  rfl

/-! ### The first loop's row -/
structure Digs (c n v : Nat) (dk : Array UInt8) : Prop where
  size : dk.size = 20
  rest : v = c / 10 ^ n
  big : n = 0 ∨ 10 ^ n ≤ c
  digits : ∀ t, t < n → dk[t]! = dg c t

theorem Digs.lt {c n v : Nat} {dk : Array UInt8} (h : Digs c n v dk) (hc : c < 18446744073709551616) : n < 20 := by
  rcases h.big with h | h
  · omega
  · rcases Nat.lt_or_ge n 20 with h' | h'
    · exact h'
    · have : 10 ^ 20 ≤ 10 ^ n := Nat.pow_le_pow_right (by decide) h'
      omega

theorem Digs.store {c n v : Nat} {dk : Array UInt8} (h : Digs c n v dk) (hn : n < 20) :
    ∀ t, t < n + 1 → (dk.setIfInBounds n (UInt8.ofNat (48 + v % 10)))[t]! = dg c t := by
  intro t ht
  by_cases e : t = n
  · subst e
    rw [get_set_same _ _ _ (by rw [h.size]; exact hn), h.rest]
    rfl
  · rw [get_set_other _ _ _ _ e]
    exact h.digits t (by omega)

theorem Digs.next {c n v : Nat} {dk : Array UInt8} (h : Digs c n v dk) (hn : n < 20) (hv : v / 10 ≠ 0) : Digs c (n + 1) (v / 10) (dk.setIfInBounds n (UInt8.ofNat (48 + v % 10))) := by
  have e : v / 10 = c / 10 ^ (n + 1) := by rw [h.rest, div_pow_succ1]
  refine ⟨by simp [h.size], e, ?_, h.store hn⟩
  right
  rw [e] at hv
  rcases Nat.lt_or_ge c (10 ^ (n + 1)) with h' | h'
  · exact absurd (Nat.div_eq_of_lt h') hv
  · exact h'

/-- The first loop's end: n + 1 digits in all. -/
theorem Digs.last {c n v : Nat} {dk : Array UInt8} (h : Digs c n v dk) (hv : v / 10 = 0) : c < 10 ^ (n + 1) ∧ (n + 1 = 1 ∨ 10 ^ (n + 1 - 1) ≤ c) := by
  have e : v / 10 = c / 10 ^ (n + 1) := by rw [h.rest, div_pow_succ1]
  have hp : 0 < 10 ^ (n + 1) := Nat.pos_of_ne_zero (by simp)
  refine ⟨?_, ?_⟩
  · rw [e] at hv
    rcases Nat.lt_or_ge c (10 ^ (n + 1)) with h' | h'
    · exact h'
    · have := Nat.div_pos h' hp; omega
  · rcases h.big with h' | h'
    · left; omega
    · right; exact h'

/-! ### The second loop's row -/
structure Head (dk : Array UInt8) (acc : List UInt8) : Prop where
  size : dk.size = 48
  le : acc.length ≤ 48
  bytes : ∀ t, t < acc.length → dk[t]? = acc[t]?

theorem Head.start (dk : Array UInt8) (h : dk.size = 48) : Head dk [] := ⟨h, by simp, fun t ht => by simp at ht⟩

theorem Head.step {dk : Array UInt8} {acc : List UInt8} (h : Head dk acc) (hl : acc.length < 48) (x : UInt8) : Head (dk.setIfInBounds acc.length x) (acc ++ [x]) := by
  refine ⟨by simp [h.size], by simp; omega, fun t ht => ?_⟩
  rw [Array.getElem?_setIfInBounds]
  by_cases e : acc.length = t
  · subst e
    rw [if_pos rfl, if_pos (by rw [h.size]; exact hl)]
    simp
  · rw [if_neg e]
    have ht' : t < acc.length := by simp at ht; omega
    rw [h.bytes t ht', List.getElem?_append_left ht']

/-! ### The world, with no draw -/
theorem store0 (w : World) (blk : Nat) (d : Array UInt8) (i : Nat) (x : UInt8) (hi : i < d.size) :
    (putRow enc w blk 0 d).setCell ⟨blk, i, none⟩ (enc x) = putRow enc w blk 0 (d.setIfInBounds i x) := by
  have := putRow_set enc w blk 0 d i x hi
  rw [Nat.zero_add] at this
  exact this

end Go.Proofs.Qxb6600385a
