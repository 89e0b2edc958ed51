/-
  THE PLAIN LAW of seat b6601128a: decimalPrefix and the automaton, over a list of bytes as numbers. No Go in sight.
-/
import Derived.Lib.ItoaNum
namespace Go.Proofs.Qxb6601128a

/-- A decimal digit's byte. -/
def dig (c : Nat) : Bool := decide (48 ≤ c) && decide (c ≤ 57)
theorem dig_iff (c : Nat) : dig c = true ↔ 48 ≤ c ∧ c ≤ 57 := by simp [dig]
theorem dig_false (c : Nat) : dig c = false ↔ ¬ (48 ≤ c ∧ c ≤ 57) := by rw [← dig_iff]; simp

/-- How many digits a list begins with. -/
def dgs : List Nat → Nat
  | [] => 0
  | c :: r => if dig c then dgs r + 1 else 0
theorem dgs_le (l : List Nat) : dgs l ≤ l.length := by
  induction l with
  | nil => exact Nat.le_refl _
  | cons c r ih => unfold dgs; split <;> simp; omega

def sgn : List Nat → Nat
  | [] => 0
  | c :: _ => if c = 43 ∨ c = 45 then 1 else 0

def infL : List Nat := [73, 110, 102, 105, 110, 105, 116, 121]

/-- The exponent, behind a literal of q bytes. -/
def expo (q : Nat) : List Nat → Nat
  | [] => q
  | c :: r => if c = 101 ∨ c = 69 then (if 0 < dgs (r.drop (sgn r)) then q + 1 + sgn r + dgs (r.drop (sgn r)) else q) else q

/-- Behind the integer digits (a of them; g bytes ahead of these). -/
def fracP (g a : Nat) : List Nat → Nat
  | [] => if a = 0 then 0 else expo (g + a) []
  | c :: r => if c = 46 then (if a = 0 ∧ dgs r = 0 then 0 else expo (g + a + 1 + dgs r) (r.drop (dgs r))) else (if a = 0 then 0 else expo (g + a) (c :: r))

theorem dgs_cons (c : Nat) (r : List Nat) : dgs (c :: r) = if dig c then dgs r + 1 else 0 := rfl
theorem sgn_cons (c : Nat) (r : List Nat) : sgn (c :: r) = if c = 43 ∨ c = 45 then 1 else 0 := rfl
theorem expo_cons (q c : Nat) (r : List Nat) : expo q (c :: r) = if c = 101 ∨ c = 69 then (if 0 < dgs (r.drop (sgn r)) then q + 1 + sgn r + dgs (r.drop (sgn r)) else q) else q := rfl
theorem fracP_nil (g a : Nat) : fracP g a [] = if a = 0 then 0 else expo (g + a) [] := rfl
theorem fracP_cons (g a c : Nat) (r : List Nat) : fracP g a (c :: r) = if c = 46 then (if a = 0 ∧ dgs r = 0 then 0 else expo (g + a + 1 + dgs r) (r.drop (dgs r))) else (if a = 0 then 0 else expo (g + a) (c :: r)) := rfl

/-- Behind the sign (g bytes). -/
def numP (g : Nat) (l : List Nat) : Nat := if l.take 8 = infL then g + 8 else fracP g (dgs l) (l.drop (dgs l))

/-- decimalPrefix. -/
def dp (l : List Nat) : Nat := numP (sgn l) (l.drop (sgn l))

/-! ### The automaton -/
def sb (c : Nat) : Int := if dig c then 2 else if c = 46 then 4 else if c = 73 then 101 else -1
def stp (st : Int) (c : Nat) : Int :=
  if 100 ≤ st then (if st < 108 ∧ infL[(st - 100).toNat]? = some c then st + 1 else -1)
  else if st = 0 then (if c = 43 ∨ c = 45 then 1 else sb c)
  else if st = 1 then sb c
  else if st = 2 then (if dig c then 2 else if c = 46 then 3 else if c = 101 ∨ c = 69 then 6 else -1)
  else if st = 3 ∨ st = 5 then (if dig c then 5 else if c = 101 ∨ c = 69 then 6 else -1)
  else if st = 4 then (if dig c then 5 else -1)
  else if st = 6 then (if c = 43 ∨ c = 45 then 7 else if dig c then 8 else -1)
  else if st = 7 ∨ st = 8 then (if dig c then 8 else -1)
  else -1
def acc (st : Int) : Bool := decide (st = 2 ∨ st = 3 ∨ st = 5 ∨ st = 8 ∨ st = 108)

def mdl : Int → Nat → Nat → List Nat → Nat
  | _, best, _, [] => best
  | st, best, p, c :: r => if stp st c < 0 then best else mdl (stp st c) (if acc (stp st c) then p + 1 else best) (p + 1) r

theorem mdl_nil (st : Int) (b p : Nat) : mdl st b p [] = b := rfl
theorem mdl_dead {st : Int} {c : Nat} (b p : Nat) (r : List Nat) (h : stp st c = -1) : mdl st b p (c :: r) = b := by
  rw [mdl, h, if_pos (by decide)]
theorem mdl_step {st st' : Int} {c : Nat} (b p : Nat) (r : List Nat) (h : stp st c = st') (h0 : 0 ≤ st') : mdl st b p (c :: r) = mdl st' (if acc st' then p + 1 else b) (p + 1) r := by
  rw [mdl, h, if_neg (by omega)]

/-- A state that eats digits and accepts. -/
theorem mdl_digits (st : Int) (h0 : 0 ≤ st) (ha : acc st = true) (h : ∀ c, dig c = true → stp st c = st) (l : List Nat) (p : Nat) :
    mdl st p p l = mdl st (p + dgs l) (p + dgs l) (l.drop (dgs l)) := by
  induction l generalizing p with
  | nil => rfl
  | cons c r ih =>
    rw [dgs_cons]
    by_cases hd : dig c = true
    · rw [if_pos hd, mdl_step p p r (h c hd) h0, ha, if_pos rfl, ih (p + 1), List.drop_succ_cons]
      congr 1 <;> omega
    · rw [if_neg hd]; rfl

theorem dgs_drop (l : List Nat) : ∀ c r, l.drop (dgs l) = c :: r → dig c = false := by
  induction l with
  | nil => intro c r h; simp [dgs] at h
  | cons x l ih =>
    intro c r h
    rw [dgs_cons] at h
    by_cases hd : dig x = true
    · rw [if_pos hd, List.drop_succ_cons] at h
      exact ih c r h
    · rw [if_neg hd, List.drop_zero] at h
      injection h with h1 h2
      subst h1
      simpa using hd

theorem stp2_dig (c : Nat) (h : dig c = true) : stp 2 c = 2 := by simp [stp, h]
theorem stp5_dig (c : Nat) (h : dig c = true) : stp 5 c = 5 := by simp [stp, h]
theorem stp8_dig (c : Nat) (h : dig c = true) : stp 8 c = 8 := by simp [stp, h]

/-- Exponent digits, read in state 8. -/
theorem mdl8 (l : List Nat) (p : Nat) : mdl 8 p p l = p + dgs l := by
  rw [mdl_digits 8 (by decide) (by decide) stp8_dig]
  cases hd : l.drop (dgs l) with
  | nil => rfl
  | cons c r =>
    have h := dgs_drop l c r hd
    exact mdl_dead _ _ _ (by simp [stp, h])

theorem mdl7 (l : List Nat) (q p : Nat) : mdl 7 q p l = if 0 < dgs l then p + dgs l else q := by
  cases l with
  | nil => rfl
  | cons c r =>
    by_cases hd : dig c = true
    · rw [mdl_step q p r (st' := 8) (by simp [stp, hd]) (by decide), show acc 8 = true from by decide, if_pos rfl, mdl8]
      rw [dgs_cons, if_pos hd, if_pos (by omega)]
      omega
    · have hd' : dig c = false := by simpa using hd
      rw [mdl_dead q p r (by simp [stp, hd'])]
      rw [dgs_cons, if_neg hd]
      rfl

theorem not_dig_sign (c : Nat) (h : c = 43 ∨ c = 45) : dig c = false := by rw [dig_false]; omega

theorem mdl6 (l : List Nat) (q p : Nat) : mdl 6 q p l = if 0 < dgs (l.drop (sgn l)) then p + sgn l + dgs (l.drop (sgn l)) else q := by
  cases l with
  | nil => rfl
  | cons c r =>
    by_cases hs : c = 43 ∨ c = 45
    · rw [mdl_step q p r (st' := 7) (by simp [stp, hs]) (by decide), show acc 7 = false from by decide, mdl7]
      have e : sgn (c :: r) = 1 := by rw [sgn_cons, if_pos hs]
      rw [e]
      rfl
    · have e : sgn (c :: r) = 0 := by rw [sgn_cons, if_neg hs]
      rw [e, List.drop_zero, Nat.add_zero]
      by_cases hd : dig c = true
      · rw [mdl_step q p r (st' := 8) (by simp [stp, hs, hd]) (by decide), show acc 8 = true from by decide, if_pos rfl, mdl8]
        rw [dgs_cons, if_pos hd, if_pos (by omega)]
        omega
      · have hd' : dig c = false := by simpa using hd
        rw [mdl_dead q p r (by simp [stp, hs, hd'])]
        rw [dgs_cons, if_neg hd]
        rfl

/-- Behind the digits: the exponent. -/
theorem mdl_expo (st : Int) (hst : st = 2 ∨ st = 3 ∨ st = 5) (l : List Nat) (q : Nat) (h : ∀ c r, l = c :: r → dig c = false ∧ (st = 2 → c ≠ 46)) : mdl st q q l = expo q l := by
  cases l with
  | nil => rfl
  | cons c r =>
    obtain ⟨h1, h2⟩ := h c r rfl
    rw [expo_cons]
    by_cases he : c = 101 ∨ c = 69
    · rw [if_pos he]
      have hs : stp st c = 6 := by
        rcases hst with rfl | rfl | rfl
        · have := h2 rfl; simp [stp, h1, this, he]
        · simp [stp, h1, he]
        · simp [stp, h1, he]
      rw [mdl_step q q r hs (by decide), show acc 6 = false from by decide, mdl6]
      rfl
    · rw [if_neg he]
      refine mdl_dead _ _ _ ?_
      rcases hst with rfl | rfl | rfl
      · have := h2 rfl; simp [stp, h1, this, he]
      · simp [stp, h1, he]
      · simp [stp, h1, he]

/-- Integer digits read: state 2. -/
theorem mdl2 (l : List Nat) (g a : Nat) (ha : 0 < a) : mdl 2 (g + a) (g + a) l = fracP g (a + dgs l) (l.drop (dgs l)) := by
  rw [mdl_digits 2 (by decide) (by decide) stp2_dig, show g + a + dgs l = g + (a + dgs l) by omega]
  cases hd : l.drop (dgs l) with
  | nil =>
    rw [fracP_nil, if_neg (by omega)]
    rfl
  | cons c r =>
    have h := dgs_drop l c r hd
    rw [fracP_cons]
    by_cases hc : c = 46
    · rw [if_pos hc, if_neg (by omega)]
      have hs : stp 2 c = 3 := by subst hc; decide
      rw [mdl_step _ _ r hs (by decide), show acc 3 = true from by decide, if_pos rfl]
      cases r with
      | nil => rfl
      | cons x r =>
        by_cases hx : dig x = true
        · rw [mdl_step _ _ r (st' := 5) (by simp [stp, hx]) (by decide), show acc 5 = true from by decide, if_pos rfl, mdl_digits 5 (by decide) (by decide) stp5_dig]
          have e : dgs (x :: r) = dgs r + 1 := by rw [dgs, if_pos hx]
          rw [e, List.drop_succ_cons, mdl_expo 5 (by simp)]
          · congr 1; omega
          · intro c' r' hr
            exact ⟨dgs_drop r c' r' hr, by omega⟩
        · have hx' : dig x = false := by simpa using hx
          have e : dgs (x :: r) = 0 := by rw [dgs, if_neg hx]
          rw [e, List.drop_zero, mdl_expo 3 (by simp)]
          intro c' r' hr
          injection hr with h1 h2
          subst h1
          exact ⟨hx', by omega⟩
    · rw [if_neg hc, if_neg (by omega)]
      refine mdl_expo 2 (by simp) _ _ ?_
      intro c' r' hr
      injection hr with h1 h2
      subst h1
      exact ⟨h, fun _ => hc⟩

/-- A point with no digits ahead: state 4. -/
theorem mdl4 (r : List Nat) (g : Nat) : mdl 4 0 (g + 1) r = if dgs r = 0 then 0 else expo (g + 0 + 1 + dgs r) (r.drop (dgs r)) := by
  cases r with
  | nil => rfl
  | cons x r =>
    by_cases hx : dig x = true
    · have e : dgs (x :: r) = dgs r + 1 := by rw [dgs, if_pos hx]
      rw [e, if_neg (by omega), mdl_step _ _ r (st' := 5) (by simp [stp, hx]) (by decide), show acc 5 = true from by decide, if_pos rfl, mdl_digits 5 (by decide) (by decide) stp5_dig, List.drop_succ_cons, mdl_expo 5 (by simp)]
      · congr 1; omega
      · intro c' r' hr
        exact ⟨dgs_drop r c' r' hr, by omega⟩
    · have hx' : dig x = false := by simpa using hx
      have e : dgs (x :: r) = 0 := by rw [dgs, if_neg hx]
      rw [e, if_pos rfl]
      exact mdl_dead _ _ _ (by simp [stp, hx'])

/-- One letter of "Infinity". -/
theorem mdl_inf (k : Nat) (hk : k < 8) (b p : Nat) (c : Nat) (r : List Nat) : mdl (100 + (k : Int)) b p (c :: r) = if infL[k]? = some c then mdl (100 + ((k + 1 : Nat) : Int)) (if acc (100 + ((k + 1 : Nat) : Int)) then p + 1 else b) (p + 1) r else b := by
  have hs : stp (100 + (k : Int)) c = if infL[k]? = some c then 100 + ((k + 1 : Nat) : Int) else -1 := by
    unfold stp
    rw [if_pos (by omega), show (100 + (k : Int) - 100).toNat = k by omega]
    by_cases h : infL[k]? = some c
    · rw [if_pos ⟨by omega, h⟩, if_pos h]; omega
    · rw [if_neg (fun e => h e.2), if_neg h]
  by_cases h : infL[k]? = some c
  · rw [if_pos h] at hs ⊢
    exact mdl_step _ _ _ hs (by omega)
  · rw [if_neg h] at hs ⊢
    exact mdl_dead _ _ _ hs

theorem mdl108 (b p : Nat) (l : List Nat) : mdl 108 b p l = b := by
  cases l with
  | nil => rfl
  | cons c r => exact mdl_dead _ _ _ (by simp [stp])

/-- The letters behind "I". -/
theorem mdl_infs : ∀ (j k : Nat), k + j = 8 → 0 < k → ∀ (p : Nat) (l : List Nat), mdl (100 + (k : Int)) (if k = 8 then p else 0) p l = if l.take j = infL.drop k then p + j else 0
  | 0, k, hk, _, p, l => by
    have : k = 8 := by omega
    subst this
    rw [if_pos rfl, show (100 + ((8 : Nat) : Int)) = 108 from rfl, mdl108]
    rw [show infL.drop 8 = [] from rfl, List.take_zero, if_pos rfl, Nat.add_zero]
  | j + 1, k, hk, h0, p, l => by
    have hk8 : ¬ k = 8 := by omega
    rw [if_neg hk8]
    have hd : infL.drop k = infL[k]'(by show k < 8; omega) :: infL.drop (k + 1) := List.drop_eq_getElem_cons (by show k < 8; omega)
    cases l with
    | nil => rw [mdl_nil, hd]; rfl
    | cons c r =>
      rw [mdl_inf k (by omega), hd, List.take_succ_cons]
      have hg : infL[k]? = some (infL[k]'(by show k < 8; omega)) := List.getElem?_eq_getElem _
      have hac : acc (100 + ((k + 1 : Nat) : Int)) = decide (k + 1 = 8) := by
        unfold acc
        congr 1
        apply propext
        omega
      by_cases h : infL[k]? = some c
      · rw [if_pos h, hac]
        have hc : infL[k]'(by show k < 8; omega) = c := by rw [hg] at h; injection h
        have ih := mdl_infs j (k + 1) (by omega) (by omega) (p + 1) r
        have e : (if decide (k + 1 = 8) = true then p + 1 else 0) = if k + 1 = 8 then p + 1 else 0 := by simp
        rw [e, ih, hc]
        simp only [List.cons.injEq, true_and]
        split <;> omega
      · rw [if_neg h, if_neg]
        intro e
        injection e with e1 _
        exact h (by rw [hg, e1])

/-- Behind the sign: state 0 (no sign ahead) or 1. -/
theorem mdl_num (st : Int) (g : Nat) (l : List Nat) (h : ∀ c r, l = c :: r → stp st c = sb c) : mdl st 0 g l = numP g l := by
  unfold numP
  cases l with
  | nil => rfl
  | cons c r =>
    have hs := h c r rfl
    by_cases hd : dig c = true
    · have hb : stp st c = 2 := by rw [hs]; unfold sb; rw [if_pos hd]
      have hc := (dig_iff c).1 hd
      rw [if_neg (by intro e; simp [infL] at e; omega), mdl_step 0 g r hb (by decide), show acc 2 = true from by decide, if_pos rfl, mdl2 r g 1 (by omega)]
      have e : dgs (c :: r) = dgs r + 1 := by rw [dgs, if_pos hd]
      rw [e, List.drop_succ_cons, Nat.add_comm 1]
    · have e : dgs (c :: r) = 0 := by rw [dgs, if_neg hd]
      rw [e, List.drop_zero]
      by_cases h46 : c = 46
      · have hb : stp st c = 4 := by rw [hs]; unfold sb; rw [if_neg hd, if_pos h46]
        rw [if_neg (by intro e; simp [infL] at e; omega), mdl_step 0 g r hb (by decide), show acc 4 = false from by decide]
        rw [fracP_cons, if_pos h46, if_neg (by simp), mdl4]
        simp
      · rw [fracP_cons, if_neg h46, if_pos rfl]
        by_cases h73 : c = 73
        · have hb : stp st c = 101 := by rw [hs]; unfold sb; rw [if_neg hd, if_neg h46, if_pos h73]
          have hi := mdl_infs 7 1 rfl (by omega) (g + 1) r
          rw [mdl_step 0 g r hb (by decide), show acc 101 = false from by decide, if_neg (by simp)]
          rw [if_neg (by omega)] at hi
          refine hi.trans ?_
          have e1 : ((c :: r).take 8 = infL) ↔ r.take 7 = infL.drop 1 := by
            rw [List.take_succ_cons, show infL = 73 :: infL.drop 1 from rfl, h73]
            simp
          by_cases hh : r.take 7 = infL.drop 1
          · rw [if_pos hh, if_pos (e1.2 hh)]
          · rw [if_neg hh, if_neg (fun x => hh (e1.1 x))]
        · have hb : stp st c = -1 := by rw [hs]; unfold sb; rw [if_neg hd, if_neg h46, if_neg h73]
          rw [mdl_dead 0 g r hb, if_neg (by intro e; simp [infL] at e; omega)]

/-- THE LAW. -/
theorem dp_mdl (l : List Nat) : dp l = mdl 0 0 0 l := by
  unfold dp
  cases l with
  | nil => rfl
  | cons c r =>
    by_cases hs : c = 43 ∨ c = 45
    · have e : sgn (c :: r) = 1 := by rw [sgn_cons, if_pos hs]
      rw [e, mdl_step 0 0 r (st := 0) (st' := 1) (by simp [stp, hs]) (by decide), show acc 1 = false from by decide]
      exact (mdl_num 1 1 r (fun c r _ => by simp [stp])).symm
    · have e : sgn (c :: r) = 0 := by rw [sgn_cons, if_neg hs]
      rw [e]
      refine (mdl_num 0 0 (c :: r) (fun c' r' h => ?_)).symm
      injection h with h1 _
      subst h1
      simp [stp, hs]

end Go.Proofs.Qxb6601128a
