/-
  THE PLAIN LAWS over the text: equal texts are of equal decimals; the texts of one scale order as the coefficients do. No Go in sight but 'Op.bytesLess', the model's '<' on strings.
-/
import Derived.Test.Qxb6600385aPlain
import GoSem.Op.String
namespace Go.Proofs.Qxb6600385a
open Go.Lib

/-- A decimal digit's byte. -/
def IsD (b : UInt8) : Prop := 48 ≤ b.toNat ∧ b.toNat ≤ 57

theorem isD_ofNat (k : Nat) (h : k < 10) : IsD (UInt8.ofNat (48 + k)) := by
  unfold IsD
  simp only [UInt8.toNat_ofNat']
  omega
theorem toNat_digit (k : Nat) (h : k < 10) : (UInt8.ofNat (48 + k)).toNat = 48 + k := by
  simp only [UInt8.toNat_ofNat']
  omega

theorem frac_digits (n c : Nat) : ∀ b ∈ frac c n, IsD b := by
  induction n generalizing c with
  | zero => intro b hb; simp [frac] at hb
  | succ n ih =>
    intro b hb
    rw [frac, List.mem_append] at hb
    rcases hb with hb | hb
    · exact ih _ b hb
    · rw [List.mem_singleton] at hb; subst hb; exact isD_ofNat _ (by omega)

theorem dec_digits (u : Nat) : ∀ b ∈ decDigits u, IsD b := by
  induction u using Nat.strongRecOn with
  | _ u ih =>
    intro b hb
    by_cases h : u < 10
    · rw [decDigits_one h] at hb
      rw [List.mem_singleton] at hb; subst hb; exact isD_ofNat _ h
    · rw [decDigits, dif_neg h, List.mem_append] at hb
      rcases hb with hb | hb
      · exact ih (u / 10) (by omega) b hb
      · rw [List.mem_singleton] at hb; subst hb; exact isD_ofNat _ (by omega)

/-- The number that a row of digits says. -/
def val (l : List UInt8) : Nat := l.foldl (fun a b => a * 10 + (b.toNat - 48)) 0

theorem val_snoc (l : List UInt8) (x : UInt8) : val (l ++ [x]) = val l * 10 + (x.toNat - 48) := by
  simp [val]

theorem val_dec (u : Nat) : val (decDigits u) = u := by
  induction u using Nat.strongRecOn with
  | _ u ih =>
    by_cases h : u < 10
    · rw [decDigits_one h, ← List.nil_append [_], val_snoc, toNat_digit u h]
      simp [val]
    · rw [decDigits, dif_neg h, val_snoc, ih (u / 10) (by omega), toNat_digit _ (by omega)]
      omega

theorem val_frac (n c : Nat) : val (frac c n) = c % 10 ^ n := by
  induction n generalizing c with
  | zero => simp [frac, val, Nat.mod_one]
  | succ n ih =>
    rw [frac, val_snoc, ih, toNat_digit _ (by omega), Nat.pow_succ, Nat.mul_comm (10 ^ n) 10, Nat.mod_mul]
    omega

theorem split_at {l1 l2 t1 t2 : List UInt8} (h1 : ∀ b ∈ l1, IsD b) (h2 : ∀ b ∈ l2, IsD b) (k1 : t1 = [] ∨ ∃ r, t1 = 46 :: r) (k2 : t2 = [] ∨ ∃ r, t2 = 46 :: r) (h : l1 ++ t1 = l2 ++ t2) : l1 = l2 ∧ t1 = t2 := by
  have no46 : ∀ {l : List UInt8} {r : List UInt8}, (∀ b ∈ l, IsD b) → ∀ x l', l = x :: l' → x :: l' ++ r ≠ [] ∧ x ≠ 46 := by
    intro l r hl x l' e
    refine ⟨by simp, fun e' => ?_⟩
    have := hl x (by rw [e]; simp)
    rw [e'] at this
    have h' := this.1
    exact absurd h' (by decide)
  induction l1 generalizing l2 with
  | nil =>
    cases l2 with
    | nil => exact ⟨rfl, by simpa using h⟩
    | cons x l2 =>
      have hx := (no46 (r := t2) h2 x l2 rfl).2
      rcases k1 with rfl | ⟨r, rfl⟩
      · simp at h
      · simp at h; exact absurd h.1.symm hx
  | cons y l1 ih =>
    cases l2 with
    | nil =>
      have hy := (no46 (r := t1) h1 y l1 rfl).2
      rcases k2 with rfl | ⟨r, rfl⟩
      · simp at h
      · simp at h; exact absurd h.1 hy
    | cons x l2 =>
      simp only [List.cons_append, List.cons.injEq] at h
      obtain ⟨e1, e2⟩ := ih (fun b hb => h1 b (List.mem_cons_of_mem _ hb)) (fun b hb => h2 b (List.mem_cons_of_mem _ hb)) h.2
      exact ⟨by rw [h.1, e1], e2⟩

theorem tailOf_form (c s : Nat) : tailOf c s = [] ∨ ∃ r, tailOf c s = 46 :: r := by
  unfold tailOf
  split
  · exact .inl rfl
  · exact .inr ⟨_, rfl⟩

theorem tailOf_inj {c1 s1 c2 s2 : Nat} (h : tailOf c1 s1 = tailOf c2 s2) : s1 = s2 ∧ c1 % 10 ^ s1 = c2 % 10 ^ s2 := by
  have hl := congrArg List.length h
  rw [tailOf_length, tailOf_length] at hl
  have hs : s1 = s2 := by split at hl <;> split at hl <;> omega
  subst hs
  refine ⟨rfl, ?_⟩
  by_cases h0 : s1 = 0
  · subst h0; simp [Nat.mod_one]
  · unfold tailOf at h
    rw [if_neg h0, if_neg h0] at h
    have := List.tail_eq_of_cons_eq h
    rw [← val_frac, ← val_frac, this]

theorem body_inj {c1 s1 c2 s2 : Nat} (h : body c1 s1 = body c2 s2) : c1 = c2 ∧ s1 = s2 := by
  obtain ⟨h1, h2⟩ := split_at (dec_digits _) (dec_digits _) (tailOf_form _ _) (tailOf_form _ _) h
  obtain ⟨hs, hm⟩ := tailOf_inj h2
  subst hs
  refine ⟨?_, rfl⟩
  have hq : c1 / 10 ^ s1 = c2 / 10 ^ s1 := by rw [← val_dec (c1 / 10 ^ s1), h1, val_dec]
  rw [← Nat.div_add_mod c1 (10 ^ s1), ← Nat.div_add_mod c2 (10 ^ s1), hq, hm]

theorem body_head (c s : Nat) (l : List UInt8) : body c s ≠ 45 :: l := by
  intro h
  unfold body at h
  have hp := dec_len1 (c / 10 ^ s)
  cases hd : decDigits (c / 10 ^ s) with
  | nil => rw [hd] at hp; simp at hp
  | cons x r =>
    rw [hd, List.cons_append] at h
    have hx := dec_digits (c / 10 ^ s) x (by rw [hd]; simp)
    rw [List.head_eq_of_cons_eq h] at hx
    exact absurd hx.1 (by decide)

/-- EQUAL TEXTS ARE OF EQUAL DECIMALS. -/
theorem txt_inj {c1 s1 c2 s2 : Nat} {n1 n2 : Bool} (h : txt c1 s1 n1 = txt c2 s2 n2) : c1 = c2 ∧ s1 = s2 ∧ n1 = n2 := by
  unfold txt at h
  cases n1 <;> cases n2 <;> simp at h
  · exact ⟨(body_inj h).1, (body_inj h).2, rfl⟩
  · exact absurd h (body_head _ _ _)
  · exact absurd h.symm (body_head _ _ _)
  · exact ⟨(body_inj h).1, (body_inj h).2, rfl⟩

end Go.Proofs.Qxb6600385a
