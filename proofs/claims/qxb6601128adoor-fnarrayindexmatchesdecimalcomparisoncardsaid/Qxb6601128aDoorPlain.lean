/-
  THE PLAIN LAW of seat b6601128aD: canonical decimals, their values, their order. No Go in sight but Op.bytesLess, the < of the model on strings, and the kit's Lib.atoiAll.
-/
import Derived.Lib.ItoaNum
import Derived.Lib.AtoiAll
import GoSem.Op.String
namespace Go.Proofs.Qxb6601128aDoor
open Go.Lib

/-- A decimal digit's byte. -/
def IsD (b : UInt8) : Prop := 48 ≤ b.toNat ∧ b.toNat ≤ 57

theorem isD_ofNat (k : Nat) (h : k < 10) : IsD (UInt8.ofNat (48 + k)) := by
  unfold IsD
  simp only [UInt8.toNat_ofNat']
  omega
theorem toNat_digit (k : Nat) (h : k < 10) : (UInt8.ofNat (48 + k)).toNat = 48 + k := by
  simp only [UInt8.toNat_ofNat']
  omega

theorem dec_digits (u : Nat) : ∀ b ∈ decDigits u, IsD b := by
  induction u using Nat.strongRecOn with
  | _ u ih =>
    intro b hb
    by_cases h : u < 10
    · rw [decDigits_one h] at hb
      rw [List.mem_singleton] at hb; subst hb; exact isD_ofNat _ h
    · rw [decDigits, dif_neg h, List.mem_append] at hb
      rcases hb with hb | hb
      · exact ih (u / 10) (by omega) b hb
      · rw [List.mem_singleton] at hb; subst hb; exact isD_ofNat _ (by omega)

/-- The number that a row of digits says. -/
def val (l : List UInt8) : Nat := l.foldl (fun a b => a * 10 + (b.toNat - 48)) 0

theorem val_snoc (l : List UInt8) (x : UInt8) : val (l ++ [x]) = val l * 10 + (x.toNat - 48) := by
  simp [val]

theorem val_dec (u : Nat) : val (decDigits u) = u := by
  induction u using Nat.strongRecOn with
  | _ u ih =>
    by_cases h : u < 10
    · rw [decDigits_one h, ← List.nil_append [_], val_snoc, toNat_digit u h]
      simp [val]
    · rw [decDigits, dif_neg h, val_snoc, ih (u / 10) (by omega), toNat_digit _ (by omega)]
      omega

theorem nDigits_le (k u : Nat) (hk : 1 ≤ k) (h : u < 10 ^ k) : nDigits u ≤ k := by
  induction k generalizing u with
  | zero => omega
  | succ k ih =>
    by_cases h10 : u < 10
    · rw [nDigits_small h10]; omega
    · rw [nDigits_big h10]
      rw [Nat.pow_succ] at h
      have hk1 : 1 ≤ k := by
        rcases Nat.eq_zero_or_pos k with rfl | h'
        · simp at h; omega
        · exact h'
      have := ih (u / 10) hk1 (by omega)
      omega

theorem pow10_le_of_nDigits (u k : Nat) (h : k + 1 ≤ nDigits u) (hk : 1 ≤ k) : 10 ^ k ≤ u := by
  rcases Nat.lt_or_ge u (10 ^ k) with h' | h'
  · have := nDigits_le k u hk h'; omega
  · exact h'

theorem dec_len1 (v : Nat) : 1 ≤ (decDigits v).length := by rw [decDigits_length]; exact nDigits_pos v

theorem less_iff {a b : UInt8} : a < b ↔ a.toNat < b.toNat := UInt8.lt_iff_toNat_lt

theorem val_cons (x : UInt8) (l : List UInt8) : val (x :: l) = (x.toNat - 48) * 10 ^ l.length + val l := by
  have h : ∀ (l : List UInt8) (k : Nat), l.foldl (fun a b => a * 10 + (b.toNat - 48)) k = k * 10 ^ l.length + val l := by
    intro l
    induction l with
    | nil => intro k; simp [val]
    | cons y l ih =>
      intro k
      simp only [val, List.foldl_cons, List.length_cons]
      rw [ih, ih (0 * 10 + (y.toNat - 48)), Nat.pow_succ, Nat.zero_mul, Nat.zero_add]
      have : (k * 10 + (y.toNat - 48)) * 10 ^ l.length = k * (10 ^ l.length * 10) + (y.toNat - 48) * 10 ^ l.length := by
        rw [Nat.add_mul, Nat.mul_assoc, Nat.mul_comm 10]
      omega
  show (x :: l).foldl _ 0 = _
  rw [List.foldl_cons, h]
  simp

theorem val_lt : ∀ (l : List UInt8), (∀ b ∈ l, IsD b) → val l < 10 ^ l.length
  | [], _ => by simp [val]
  | x :: l, h => by
    have h1 := val_lt l (fun b hb => h b (List.mem_cons_of_mem _ hb))
    have h2 := h x (by simp)
    unfold IsD at h2
    rw [val_cons, List.length_cons, Nat.pow_succ]
    have h3 : (x.toNat - 48) * 10 ^ l.length ≤ 9 * 10 ^ l.length := Nat.mul_le_mul_right _ (by omega)
    omega

/-- OF TWO ROWS OF DIGITS OF ONE LENGTH THE LEXICALLY SMALLER SAYS THE SMALLER NUMBER. -/
theorem bl_val : ∀ (x y : List UInt8), x.length = y.length → (∀ b ∈ x, IsD b) → (∀ b ∈ y, IsD b) → Op.bytesLess x y = decide (val x < val y)
  | [], [], _, _, _ => by simp [Op.bytesLess, val]
  | [], _ :: _, h, _, _ => by simp at h
  | _ :: _, [], h, _, _ => by simp at h
  | a :: x, b :: y, h, hx, hy => by
    have hl : x.length = y.length := by simpa using h
    have ih := bl_val x y hl (fun c hc => hx c (List.mem_cons_of_mem _ hc)) (fun c hc => hy c (List.mem_cons_of_mem _ hc))
    have vx := val_lt x (fun c hc => hx c (List.mem_cons_of_mem _ hc))
    have vy := val_lt y (fun c hc => hy c (List.mem_cons_of_mem _ hc))
    have da := hx a (by simp)
    have db := hy b (by simp)
    unfold IsD at da db
    rw [Op.bytesLess, ih, val_cons, val_cons, ← hl]
    rw [← hl] at vy
    rcases Nat.lt_trichotomy a.toNat b.toNat with h1 | h1 | h1
    · have e1 : a < b := less_iff.2 h1
      have h3 : (a.toNat - 48 + 1) * 10 ^ x.length ≤ (b.toNat - 48) * 10 ^ x.length := Nat.mul_le_mul_right _ (by omega)
      rw [Nat.add_mul] at h3
      have : (a.toNat - 48) * 10 ^ x.length + val x < (b.toNat - 48) * 10 ^ x.length + val y := by omega
      simp [e1, this]
    · have e1 : a = b := UInt8.toNat_inj.1 h1
      subst e1
      simp
    · have e1 : ¬ a < b := fun hh => by have := less_iff.1 hh; omega
      have e2 : ¬ a = b := fun hh => by subst hh; omega
      have h3 : (b.toNat - 48 + 1) * 10 ^ x.length ≤ (a.toNat - 48) * 10 ^ x.length := Nat.mul_le_mul_right _ (by omega)
      rw [Nat.add_mul] at h3
      have : ¬ (a.toNat - 48) * 10 ^ x.length + val x < (b.toNat - 48) * 10 ^ x.length + val y := by omega
      simp [e1, e2, this]

/-! ### Canonical decimals -/

/-- At least one byte, digits alone, no leading zero. -/
def Canon (l : List UInt8) : Prop := l ≠ [] ∧ (∀ b ∈ l, IsD b) ∧ (l.length = 1 ∨ l[0]? ≠ some 48)

theorem val_ge (l : List UInt8) (x : UInt8) (hx : 49 ≤ x.toNat) : 10 ^ l.length ≤ val (x :: l) := by
  rw [val_cons]
  have : 1 * 10 ^ l.length ≤ (x.toNat - 48) * 10 ^ l.length := Nat.mul_le_mul_right _ (by omega)
  omega

/-- A canonical decimal has as many digits as its value. -/
theorem canon_len {l : List UInt8} (h : Canon l) : l.length = nDigits (val l) := by
  obtain ⟨h0, hd, h1⟩ := h
  cases l with
  | nil => exact absurd rfl h0
  | cons x r =>
    have hx := hd x (by simp)
    unfold IsD at hx
    have hlt := val_lt (x :: r) hd
    by_cases hr : r = []
    · subst hr
      have : val [x] < 10 := by simpa using hlt
      rw [nDigits_small this]
      rfl
    · have hl : r.length ≠ 0 := fun e => hr (List.length_eq_zero_iff.1 e)
      have hne : x.toNat ≠ 48 := by
        rcases h1 with h1 | h1
        · simp at h1; exact absurd h1 hr
        · intro e
          apply h1
          have : x = 48 := UInt8.toNat_inj.1 e
          rw [this]; rfl
      have hg := val_ge r x (by omega)
      rw [List.length_cons] at hlt ⊢
      exact (nDigits_unique r.length (val (x :: r)) hg hlt).symm

theorem canon_dec (u : Nat) : Canon (decDigits u) := by
  refine ⟨fun e => ?_, dec_digits u, ?_⟩
  · have := dec_len1 u; rw [e] at this; simp at this
  · induction u using Nat.strongRecOn with
    | _ u ih =>
      by_cases h : u < 10
      · left; rw [decDigits_one h]; rfl
      · rw [decDigits, dif_neg h]
        right
        have hl := dec_len1 (u / 10)
        rw [List.getElem?_append_left (by omega)]
        rcases ih (u / 10) (by omega) with h1 | h1
        · intro e
          by_cases hs : u / 10 < 10
          · rw [decDigits_one hs] at e
            simp only [List.getElem?_cons_zero, Option.some.injEq] at e
            have e2 := congrArg UInt8.toNat e
            rw [toNat_digit _ hs] at e2
            have : (48 : UInt8).toNat = 48 := rfl
            omega
          · rw [decDigits_length, nDigits_big hs] at h1
            have := nDigits_pos (u / 10 / 10)
            omega
        · exact h1

/-- THE MODEL's COMPARISON: shorter first, then byte by byte. -/
def dless (a b : List UInt8) : Bool := if a.length = b.length then Op.bytesLess a b else decide (a.length < b.length)

theorem digits_lt {u v : Nat} (h : nDigits u < nDigits v) : u < v := by
  have h1 := lt_pow_nDigits u
  have h2 := pow10_le_of_nDigits v (nDigits u) h (nDigits_pos u)
  omega

theorem dless_val {l : List UInt8} (h : Canon l) (n : Nat) : dless l (decDigits n) = decide (val l < n) := by
  unfold dless
  have hl := canon_len h
  have hn := decDigits_length n
  by_cases e : l.length = (decDigits n).length
  · rw [if_pos e, bl_val l (decDigits n) e h.2.1 (dec_digits n), val_dec]
  · rw [if_neg e, hl, hn]
    rw [hl, hn] at e
    by_cases h1 : nDigits (val l) < nDigits n
    · rw [decide_eq_true h1, decide_eq_true (digits_lt h1)]
    · have h2 : n < val l := digits_lt (by omega)
      rw [decide_eq_false h1, decide_eq_false (by omega)]

/-! ### strconv.Atoi at digits -/

/-- The value, behind acc. -/
def valF (acc : Nat) (l : List UInt8) : Nat := l.foldl (fun a b => a * 10 + (b.toNat - 48)) acc
theorem valF_nil (acc : Nat) : valF acc [] = acc := by simp only [valF, List.foldl_nil]
theorem valF_cons (acc : Nat) (c : UInt8) (r : List UInt8) : valF acc (c :: r) = valF (acc * 10 + (c.toNat - 48)) r := by simp only [valF, List.foldl_cons]
theorem val_valF (l : List UInt8) : val l = valF 0 l := by simp only [val, valF]
theorem valF_ge (l : List UInt8) : ∀ acc, acc ≤ valF acc l := by
  induction l with
  | nil => intro acc; rw [valF_nil]; exact Nat.le_refl _
  | cons c r ih => intro acc; have := ih (acc * 10 + (c.toNat - 48)); rw [valF_cons]; omega

theorem parse_digits (l : List UInt8) : ∀ acc, (∀ b ∈ l, IsD b) → acc < 18446744073709551616 → parseUint10 acc l = if valF acc l < 18446744073709551616 then .ok (valF acc l) else .range := by
  induction l with
  | nil => intro acc _ ha; rw [parseUint10, valF_nil, if_pos ha]
  | cons c r ih =>
    intro acc hd ha
    have hc := hd c (by simp)
    unfold IsD at hc
    rw [parseUint10, if_pos hc, valF_cons]
    have hg := valF_ge r (acc * 10 + (c.toNat - 48))
    by_cases h1 : 1844674407370955162 ≤ acc
    · rw [if_pos h1, if_neg (by omega)]
    · rw [if_neg h1]
      by_cases h2 : 18446744073709551616 ≤ acc * 10 + (c.toNat - 48)
      · rw [if_pos h2, if_neg (by omega)]
      · rw [if_neg h2, ih _ (fun b hb => hd b (List.mem_cons_of_mem _ hb)) (by omega)]

theorem atoi_digits (l : List UInt8) (h0 : l ≠ []) (hd : ∀ b ∈ l, IsD b) : atoiAll l = if val l < 9223372036854775808 then .ok (val l : Int) else .range := by
  cases l with
  | nil => exact absurd rfl h0
  | cons c r =>
    have hc := hd c (by simp)
    unfold IsD at hc
    have hm : parseMag (c :: r) = if val (c :: r) < 18446744073709551616 then .ok (val (c :: r)) else .range := by
      unfold parseMag
      rw [if_neg (by simp), parse_digits (c :: r) 0 hd (by omega), val_valF]
    unfold atoiAll
    have h1 : ¬ (c.toNat = 43 ∨ c.toNat = 45) := by omega
    have h2 : ¬ c.toNat = 45 := by omega
    simp only [if_neg h1, hm]
    by_cases hv : val (c :: r) < 18446744073709551616
    · rw [if_pos hv]
      by_cases hs : val (c :: r) < 9223372036854775808
      · simp [h2, hs]
      · simp [h2, hs]
    · rw [if_neg hv, if_neg (by omega)]

/-! ### positiveDecimalB1 -/
def pd (v : Nat) : List UInt8 := if v = 0 then [] else decDigits v
theorem pd_step (v : Nat) (h : 0 < v) : pd v = pd (v / 10) ++ [UInt8.ofNat (48 + v % 10)] := by
  unfold pd
  rw [if_neg (by omega)]
  by_cases h10 : v < 10
  · rw [if_pos (by omega), decDigits_one h10, Nat.mod_eq_of_lt h10]
    rfl
  · rw [if_neg (by omega), decDigits, dif_neg h10]
theorem pd_pos (v : Nat) (h : 0 < v) : pd v = decDigits v := by unfold pd; rw [if_neg (by omega)]
theorem dec_len19 (v : Nat) (h : v < 9223372036854775808) : (decDigits v).length ≤ 19 := by
  rw [decDigits_length]
  exact nDigits_le 19 v (by omega) (by omega)

end Go.Proofs.Qxb6601128aDoor
