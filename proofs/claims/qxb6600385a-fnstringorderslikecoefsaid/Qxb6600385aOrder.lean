/-
  THE PLAIN LAW of the order: the texts of one scale order as the coefficients do. No Go in sight but Op.bytesLess, the < of the model on strings.
-/
import Derived.Test.Qxb6600385aLaws
namespace Go.Proofs.Qxb6600385a
open Go.Lib

theorem less_iff {a b : UInt8} : a < b ↔ a.toNat < b.toNat := UInt8.lt_iff_toNat_lt

theorem bl_append : ∀ (x y : List UInt8) (t u : List UInt8), x.length = y.length → Op.bytesLess (x ++ t) (y ++ u) = (Op.bytesLess x y || (decide (x = y) && Op.bytesLess t u))
  | [], [], t, u, _ => by simp [Op.bytesLess]
  | [], _ :: _, _, _, h => by simp at h
  | _ :: _, [], _, _, h => by simp at h
  | a :: x, b :: y, t, u, h => by
    simp only [List.cons_append, Op.bytesLess]
    rw [bl_append x y t u (by simpa using h)]
    by_cases e : a = b
    · subst e; simp [Bool.and_or_distrib_left]
    · have : (a == b) = false := by simpa using e
      simp [this, e]

theorem val_cons (x : UInt8) (l : List UInt8) : val (x :: l) = (x.toNat - 48) * 10 ^ l.length + val l := by
  have h : ∀ (l : List UInt8) (k : Nat), l.foldl (fun a b => a * 10 + (b.toNat - 48)) k = k * 10 ^ l.length + val l := by
    intro l
    induction l with
    | nil => intro k; simp [val]
    | cons y l ih =>
      intro k
      simp only [val, List.foldl_cons, List.length_cons]
      rw [ih, ih (0 * 10 + (y.toNat - 48)), Nat.pow_succ, Nat.zero_mul, Nat.zero_add]
      have : (k * 10 + (y.toNat - 48)) * 10 ^ l.length = k * (10 ^ l.length * 10) + (y.toNat - 48) * 10 ^ l.length := by
        rw [Nat.add_mul, Nat.mul_assoc, Nat.mul_comm 10]
      omega
  show (x :: l).foldl _ 0 = _
  rw [List.foldl_cons, h]
  simp

theorem val_lt : ∀ (l : List UInt8), (∀ b ∈ l, IsD b) → val l < 10 ^ l.length
  | [], _ => by simp [val]
  | x :: l, h => by
    have h1 := val_lt l (fun b hb => h b (List.mem_cons_of_mem _ hb))
    have h2 := h x (by simp)
    unfold IsD at h2
    rw [val_cons, List.length_cons, Nat.pow_succ]
    have h3 : (x.toNat - 48) * 10 ^ l.length ≤ 9 * 10 ^ l.length := Nat.mul_le_mul_right _ (by omega)
    omega

/-- OF TWO ROWS OF DIGITS OF ONE LENGTH THE LEXICALLY SMALLER SAYS THE SMALLER NUMBER. -/
theorem bl_val : ∀ (x y : List UInt8), x.length = y.length → (∀ b ∈ x, IsD b) → (∀ b ∈ y, IsD b) → Op.bytesLess x y = decide (val x < val y)
  | [], [], _, _, _ => by simp [Op.bytesLess, val]
  | [], _ :: _, h, _, _ => by simp at h
  | _ :: _, [], h, _, _ => by simp at h
  | a :: x, b :: y, h, hx, hy => by
    have hl : x.length = y.length := by simpa using h
    have ih := bl_val x y hl (fun c hc => hx c (List.mem_cons_of_mem _ hc)) (fun c hc => hy c (List.mem_cons_of_mem _ hc))
    have vx := val_lt x (fun c hc => hx c (List.mem_cons_of_mem _ hc))
    have vy := val_lt y (fun c hc => hy c (List.mem_cons_of_mem _ hc))
    have da := hx a (by simp)
    have db := hy b (by simp)
    unfold IsD at da db
    rw [Op.bytesLess, ih, val_cons, val_cons, ← hl]
    rw [← hl] at vy
    rcases Nat.lt_trichotomy a.toNat b.toNat with h1 | h1 | h1
    · have e1 : a < b := less_iff.2 h1
      have h3 : (a.toNat - 48 + 1) * 10 ^ x.length ≤ (b.toNat - 48) * 10 ^ x.length := Nat.mul_le_mul_right _ (by omega)
      rw [Nat.add_mul] at h3
      have : (a.toNat - 48) * 10 ^ x.length + val x < (b.toNat - 48) * 10 ^ x.length + val y := by omega
      simp [e1, this]
    · have e1 : a = b := UInt8.toNat_inj.1 h1
      subst e1
      simp
    · have e1 : ¬ a < b := fun hh => by have := less_iff.1 hh; omega
      have e2 : ¬ a = b := fun hh => by subst hh; omega
      have h3 : (b.toNat - 48 + 1) * 10 ^ x.length ≤ (a.toNat - 48) * 10 ^ x.length := Nat.mul_le_mul_right _ (by omega)
      rw [Nat.add_mul] at h3
      have : ¬ (a.toNat - 48) * 10 ^ x.length + val x < (b.toNat - 48) * 10 ^ x.length + val y := by omega
      simp [e1, e2, this]

theorem bl_irrefl : ∀ (x : List UInt8), Op.bytesLess x x = false
  | [] => rfl
  | a :: x => by simp [Op.bytesLess, bl_irrefl x]

/-- THE ORDER: the shorter text, or at equal length the lexically smaller one, is of the smaller coefficient. -/
theorem txt_order (a b s : Nat) :
    (decide ((txt a s false).length < (txt b s false).length) || (decide ((txt a s false).length = (txt b s false).length) && Op.bytesLess (txt a s false) (txt b s false))) = decide (a < b) := by
  have ea : txt a s false = decDigits (a / 10 ^ s) ++ tailOf a s := rfl
  have eb : txt b s false = decDigits (b / 10 ^ s) ++ tailOf b s := rfl
  have hp : 0 < 10 ^ s := Nat.pos_of_ne_zero (by simp)
  have da := Nat.div_add_mod a (10 ^ s)
  have db := Nat.div_add_mod b (10 ^ s)
  have ma := Nat.mod_lt a hp
  have mb := Nat.mod_lt b hp
  have tl : (tailOf a s).length = (tailOf b s).length := by rw [tailOf_length, tailOf_length]
  have key : a < b ↔ (a / 10 ^ s < b / 10 ^ s ∨ (a / 10 ^ s = b / 10 ^ s ∧ a % 10 ^ s < b % 10 ^ s)) := by
    generalize a / 10 ^ s = qa at *
    generalize b / 10 ^ s = qb at *
    rcases Nat.lt_trichotomy qa qb with h | h | h
    · have h3 : 10 ^ s * (qa + 1) ≤ 10 ^ s * qb := Nat.mul_le_mul_left _ h
      rw [Nat.mul_add] at h3
      constructor
      · intro _; exact .inl h
      · intro _; omega
    · subst h; constructor
      · intro _; right; exact ⟨rfl, by omega⟩
      · intro _; omega
    · have h3 : 10 ^ s * (qb + 1) ≤ 10 ^ s * qa := Nat.mul_le_mul_left _ h
      rw [Nat.mul_add] at h3
      constructor
      · intro _; omega
      · rintro (h' | ⟨h', _⟩) <;> omega
  rw [ea, eb, List.length_append, List.length_append, decDigits_length, decDigits_length, tl]
  have digit_lt : ∀ u v : Nat, nDigits u < nDigits v → u < v := fun u v h => by
    have h1 := lt_pow_nDigits u
    have h2 := pow10_le_of_nDigits v (nDigits u) h (nDigits_pos u)
    omega
  rcases Nat.lt_trichotomy (nDigits (a / 10 ^ s)) (nDigits (b / 10 ^ s)) with h | h | h
  · have h1 := digit_lt _ _ h
    have h2 : a < b := key.2 (.inl h1)
    simp [h, h2]
  · have hl : (decDigits (a / 10 ^ s)).length = (decDigits (b / 10 ^ s)).length := by rw [decDigits_length, decDigits_length, h]
    rw [bl_append _ _ _ _ hl, bl_val _ _ hl (dec_digits _) (dec_digits _), val_dec, val_dec, h]
    have ht : Op.bytesLess (tailOf a s) (tailOf b s) = decide (a % 10 ^ s < b % 10 ^ s) := by
      unfold tailOf
      by_cases h0 : s = 0
      · subst h0; simp [Op.bytesLess, Nat.mod_one]
      · rw [if_neg h0, if_neg h0, Op.bytesLess, bl_val _ _ (by rw [frac_length, frac_length]) (frac_digits _ _) (frac_digits _ _), val_frac, val_frac]
        simp
    rw [ht]
    have hd : (decDigits (a / 10 ^ s) = decDigits (b / 10 ^ s)) ↔ a / 10 ^ s = b / 10 ^ s :=
      ⟨fun e => by rw [← val_dec (a / 10 ^ s), e, val_dec], fun e => by rw [e]⟩
    simp only [Nat.lt_irrefl, decide_false, Bool.false_or, decide_true, Bool.true_and]
    rw [Bool.eq_iff_iff]
    simp only [Bool.or_eq_true, Bool.and_eq_true, decide_eq_true_eq, hd]
    exact key.symm
  · have h1 := digit_lt _ _ h
    have h2 : ¬ a < b := fun e => by rcases key.1 e with h' | ⟨h', _⟩ <;> omega
    have h3 : ¬ nDigits (a / 10 ^ s) + (tailOf b s).length < nDigits (b / 10 ^ s) + (tailOf b s).length := by omega
    have h4 : ¬ nDigits (a / 10 ^ s) + (tailOf b s).length = nDigits (b / 10 ^ s) + (tailOf b s).length := by omega
    rw [decide_eq_false h3, decide_eq_false h4, decide_eq_false h2]
    rfl
end Go.Proofs.Qxb6600385a
