/-
  THE WALKS of the automaton: isDigitB1, startBodyB1, stepDecimalB1, acceptingDecimalB1, modelDecimalPrefixB1.
-/
import Derived.Test.Qxb6601128aRows
import Derived.Test.Qxb6601128aPlain
import Derived.WalkKit
import Derived.ProofKit
import Derived.Lib.Hide
import Derived.WalkSpells
namespace Go.Proofs.Qxb6601128a
open Go.RowKit

theorem ret_i {k : IntKind} {a b : Int} (h : a = b) : Ending.returned (.int k a) = .returned (.int k b) := by rw [h]
theorem ret_b {a b : Bool} (h : a = b) : Ending.returned (.bool a) = .returned (.bool b) := by rw [h]

theorem isDigit_any (c : Nat) (w : World) : Calls Try.prog 27 #[.int .u8 (c : Int)] w fun e w' => e = .returned (.bool (dig c)) ∧ w' = w := by
  by_cases h1 : (48 : Int) ≤ (c : Int)
  · by_cases h2 : (c : Int) ≤ 57
    · have HD := Lib.hid ((dig_iff c).2 (by omega))
      go_enter Try.func27, Try.ntmps27
      go_wp2
      go_ret
      exact ⟨ret_b HD.out.symm, rfl⟩
    · have HD := Lib.hid ((dig_false c).2 (by omega))
      go_enter Try.func27, Try.ntmps27
      go_wp2
      go_ret
      exact ⟨ret_b HD.out.symm, rfl⟩
  · have HD := Lib.hid ((dig_false c).2 (by omega))
    go_enter Try.func27, Try.ntmps27
    go_wp2
    go_ret
    exact ⟨ret_b HD.out.symm, rfl⟩

/-- The constant "Infinity". -/
def infB : ByteArray := ⟨#[73, 110, 102, 105, 110, 105, 116, 121]⟩
theorem idx_inf0 (w : World) : (Instr.index 9 (.string ⟨#[73, 110, 102, 105, 110, 105, 116, 121]⟩) (.int .i64 0)).run Try.prog w = .ok (.int .u8 73) w := by kernel_rfl

/-- The kinds of byte that the automaton tells apart. -/
theorem kinds (c : Nat) : (dig c = true ∧ 48 ≤ c ∧ c ≤ 57) ∨ c = 43 ∨ c = 45 ∨ c = 46 ∨ c = 101 ∨ c = 69 ∨ c = 73 ∨ (dig c = false ∧ c ≠ 43 ∧ c ≠ 45 ∧ c ≠ 46 ∧ c ≠ 101 ∧ c ≠ 69 ∧ c ≠ 73) := by
  cases h : dig c
  · by_cases h1 : c = 43 ∨ c = 45 ∨ c = 46 ∨ c = 101 ∨ c = 69 ∨ c = 73
    · omega
    · simp only [Bool.false_eq_true, false_and, false_or, true_and]; omega
  · have := (dig_iff c).1 h
    exact .inl ⟨rfl, this⟩

set_option maxHeartbeats 400000 in
theorem startBody_any (c : Nat) (w : World) : Calls Try.prog 26 #[.int .u8 (c : Int)] w fun e w' => e = .returned (.int .i64 (sb c)) ∧ w' = w := by
  have hi0 := idx_inf0
  have HD := Lib.hid (isDigit_any c)
  have HS := Lib.hid (show sb c = if dig c then 2 else if c = 46 then 4 else if c = 73 then 101 else -1 from rfl)
  obtain ⟨d, hd⟩ : ∃ d, dig c = d := ⟨_, rfl⟩
  rw [hd] at HD HS
  clear hd
  cases d
  · by_cases h1 : c = 46
    · have k1 : ((c : Int) == 46) = true := by simp; omega
      have H1 := Lib.hid h1
      clear h1
      go_enter Try.func26, Try.ntmps26
      go_wp2_with (go_at_call 27; refine (HD.out _).mono ?_; rintro e w' ⟨rfl, rfl⟩)
      go_ret
      exact ⟨ret_i (by rw [HS.out]; simp [H1.out]), rfl⟩
    · have k1 : ((c : Int) == 46) = false := by simp; omega
      by_cases h2 : c = 73
      · have k2 : ((c : Int) == 73) = true := by simp; omega
        have H2 := Lib.hid h2
        clear h2 h1
        go_enter Try.func26, Try.ntmps26
        go_wp2_with (go_at_call 27; refine (HD.out _).mono ?_; rintro e w' ⟨rfl, rfl⟩)
        go_ret
        exact ⟨ret_i (by rw [HS.out]; simp [H2.out]), rfl⟩
      · have k2 : ((c : Int) == 73) = false := by simp; omega
        go_enter Try.func26, Try.ntmps26
        go_wp2_with (go_at_call 27; refine (HD.out _).mono ?_; rintro e w' ⟨rfl, rfl⟩)
        go_ret
        exact ⟨ret_i (by rw [HS.out]; simp [h1, h2]), rfl⟩
  · go_enter Try.func26, Try.ntmps26
    go_wp2_with (go_at_call 27; refine (HD.out _).mono ?_; rintro e w' ⟨rfl, rfl⟩)
    go_ret
    exact ⟨ret_i (by rw [HS.out]; rfl), rfl⟩

theorem beq_t {c k : Nat} {K : Int} (hK : K = (k : Int)) (h : ((c : Int) == K) = true) : c = k := by
  have := eq_of_beq h; omega
theorem beq_f {c k : Nat} {K : Int} (hK : K = (k : Int)) (h : ((c : Int) == K) = false) : c ≠ k := by
  have := ne_of_beq_false h; omega

set_option maxHeartbeats 2000000 in
set_option maxRecDepth 100000 in
theorem step_small (st : Int) (hst : st = 0 ∨ st = 1 ∨ st = 2 ∨ st = 3 ∨ st = 4 ∨ st = 5 ∨ st = 6 ∨ st = 7 ∨ st = 8) (c : Nat) (w : World) :
    Calls Try.prog 21 #[.int .i64 st, .int .u8 (c : Int)] w fun e w' => e = .returned (.int .i64 (stp st c)) ∧ w' = w := by
  have HB := Lib.hid (startBody_any c)
  have HD := Lib.hid (isDigit_any c)
  obtain ⟨d, hd⟩ : ∃ d, dig c = d := ⟨_, rfl⟩
  rw [hd] at HD
  have HE := Lib.hid hd
  clear hd
  rcases hst with rfl | rfl | rfl | rfl | rfl | rfl | rfl | rfl | rfl
  all_goals
    cases d
    all_goals
      go_enter Try.func21, Try.ntmps21
      go_wp2_with (first | (go_at_call 27; refine (HD.out _).mono ?_; rintro e w' ⟨rfl, rfl⟩) | (go_at_call 26; refine (HB.out _).mono ?_; rintro e w' ⟨rfl, rfl⟩))
      all_goals
        go_ret
        have hE := HE.out
        refine ⟨ret_i ?_, rfl⟩
        simp_all [stp] <;> (intros; omega)

theorem idx_inf (k : Nat) (hk : k < 8) (z : Int) (hz : z = (k : Int)) (w : World) : (Instr.index 9 (.string ⟨#[73, 110, 102, 105, 110, 105, 116, 121]⟩) (.int .i64 z)).run Try.prog w = .ok (.int .u8 ((infL.getD k 0 : Nat) : Int)) w := by
  subst hz
  rcases (show k = 0 ∨ k = 1 ∨ k = 2 ∨ k = 3 ∨ k = 4 ∨ k = 5 ∨ k = 6 ∨ k = 7 by omega) with rfl | rfl | rfl | rfl | rfl | rfl | rfl | rfl <;> kernel_rfl

set_option maxHeartbeats 1000000 in
set_option maxRecDepth 100000 in
theorem step_inf (k : Nat) (hk : k ≤ 8) (c : Nat) (w : World) :
    Calls Try.prog 21 #[.int .i64 (100 + (k : Int)), .int .u8 (c : Int)] w fun e w' => e = .returned (.int .i64 (stp (100 + (k : Int)) c)) ∧ w' = w := by
  have HS := Lib.hid (show stp (100 + (k : Int)) c = if k < 8 ∧ infL[k]? = some c then 101 + (k : Int) else -1 by
    unfold stp
    rw [if_pos (by omega), show (100 + (k : Int) - 100).toNat = k by omega]
    by_cases h : k < 8 ∧ infL[k]? = some c
    · rw [if_pos h, if_pos ⟨by omega, h.2⟩]; omega
    · rw [if_neg h, if_neg (fun e => h ⟨by omega, e.2⟩)])
  by_cases h8 : k < 8
  · have hix := idx_inf k h8 (100 + (k : Int) - 100) (by omega)
    have hg : infL[k]? = some (infL.getD k 0) := by
      have hl : k < infL.length := h8
      rw [List.getD_eq_getElem?_getD, List.getElem?_eq_getElem hl]
      rfl
    have HG := Lib.hid hg
    clear hg
    obtain ⟨x, hx⟩ : ∃ x, infL.getD k 0 = x := ⟨_, rfl⟩
    have h8' : (k : Int) < 8 := by omega
    rw [hx] at hix HG
    clear hx
    by_cases hc : c = x
    · have hcb : ((c : Int) == (x : Int)) = true := by simp; omega
      have HC := Lib.hid hc
      clear hc
      go_enter Try.func21, Try.ntmps21
      go_wp2
      go_ret
      exact ⟨ret_i (by rw [HS.out, if_pos ⟨h8, by rw [HG.out, HC.out]⟩]; omega), rfl⟩
    · have hcb : ((c : Int) == (x : Int)) = false := by simp; omega
      have HC := Lib.hid hc
      clear hc
      go_enter Try.func21, Try.ntmps21
      go_wp2
      go_ret
      exact ⟨ret_i (by rw [HS.out, if_neg (fun e => HC.out (by have := e.2; rw [HG.out] at this; injection this with this; exact this.symm))]), rfl⟩
  · have h8' : ¬ (k : Int) < 8 := by omega
    go_enter Try.func21, Try.ntmps21
    go_wp2
    go_ret
    exact ⟨ret_i (by rw [HS.out, if_neg (fun e => h8 e.1)]), rfl⟩

/-- The states that the automaton meets. -/
def Live (st : Int) : Prop := (st = 0 ∨ st = 1 ∨ st = 2 ∨ st = 3 ∨ st = 4 ∨ st = 5 ∨ st = 6 ∨ st = 7 ∨ st = 8) ∨ ∃ k : Nat, k ≤ 8 ∧ st = 100 + (k : Int)

theorem step_any (st : Int) (h : Live st) (c : Nat) (w : World) : Calls Try.prog 21 #[.int .i64 st, .int .u8 (c : Int)] w fun e w' => e = .returned (.int .i64 (stp st c)) ∧ w' = w := by
  rcases h with h | ⟨k, hk, rfl⟩
  · exact step_small st h c w
  · exact step_inf k hk c w

theorem sb_live (c : Nat) (h : ¬ sb c < 0) : Live (sb c) := by
  unfold sb at h ⊢
  split
  · exact .inl (by omega)
  · split
    · exact .inl (by omega)
    · split
      · exact .inr ⟨1, by omega, rfl⟩
      · rename_i h1 h2 h3
        rw [if_neg h1, if_neg h2, if_neg h3] at h
        omega

theorem stp_live (st : Int) (h : Live st) (c : Nat) (h0 : ¬ stp st c < 0) : Live (stp st c) := by
  rcases h with h | ⟨k, hk, rfl⟩
  · rcases h with rfl | rfl | rfl | rfl | rfl | rfl | rfl | rfl | rfl
    · by_cases hs : c = 43 ∨ c = 45
      · have e : stp 0 c = 1 := by simp [stp, hs]
        rw [e]; exact .inl (by omega)
      · have e : stp 0 c = sb c := by simp [stp, hs]
        rw [e] at h0 ⊢; exact sb_live c h0
    · have e : stp 1 c = sb c := by simp [stp]
      rw [e] at h0 ⊢; exact sb_live c h0
    all_goals
      revert h0
      simp only [stp]
      simp
      repeat' split
      all_goals (intro _; first | exact .inl (by omega) | omega)
  · unfold stp at h0 ⊢
    rw [if_pos (by omega)] at h0 ⊢
    by_cases h : 100 + (k : Int) < 108 ∧ infL[(100 + (k : Int) - 100).toNat]? = some c
    · rw [if_pos h]
      exact .inr ⟨k + 1, by omega, by omega⟩
    · rw [if_neg h] at h0
      omega

theorem live_bound (st : Int) (h : Live st) : 0 ≤ st ∧ st ≤ 108 := by
  rcases h with h | ⟨k, hk, rfl⟩ <;> omega

theorem acc_any (st : Int) (w : World) : Calls Try.prog 22 #[.int .i64 st] w fun e w' => e = .returned (.bool (acc st)) ∧ w' = w := by
  go_enter Try.func22, Try.ntmps22
  go_wp2
  all_goals
    go_ret
    refine ⟨ret_b ?_, rfl⟩
    first
      | (simp_all [acc]; done)
      | (unfold acc; rw [Bool.eq_iff_iff]; simp; omega)

/-- The bytes of a string, as numbers. -/
def byts (s : ByteArray) : List Nat := s.data.toList.map (·.toNat)
theorem byts_length (s : ByteArray) : (byts s).length = s.size := by unfold byts; rw [List.length_map]; rfl

/-- 's[i]', the index in whatever spelling. -/
theorem idx_at (s : ByteArray) (i : Nat) (z : Int) (hz : z = (i : Int)) (hi : i < s.size) (w : World) :
    (Instr.index 9 (.string s) (.int .i64 z)).run Try.prog w = .ok (.int .u8 (((byts s).getD i 0 : Nat) : Int)) w := by
  subst hz
  rw [run_index_string w 9 s .i64 _ Try.underlying9, dif_pos ⟨by omega, by omega⟩]
  congr 3
  have hl : i < (byts s).length := by rw [byts_length]; exact hi
  rw [List.getD_eq_getElem?_getD, List.getElem?_eq_getElem hl]
  simp only [Option.getD_some, byts, List.getElem_map, Int.toNat_natCast]
  rfl

theorem drop_at (s : ByteArray) (i : Nat) (hi : i < s.size) : (byts s).drop i = (byts s).getD i 0 :: (byts s).drop (i + 1) := by
  have hl : i < (byts s).length := by rw [byts_length]; exact hi
  rw [List.drop_eq_getElem_cons hl, List.getD_eq_getElem?_getD, List.getElem?_eq_getElem hl]
  rfl

theorem mdl_le (l : List Nat) : ∀ (st : Int) (b p : Nat), b ≤ p → mdl st b p l ≤ p + l.length := by
  induction l with
  | nil => intro st b p h; exact h
  | cons c r ih =>
    intro st b p h
    rw [mdl]
    split
    · simp; omega
    · have := ih (stp st c) (if acc (stp st c) then p + 1 else b) (p + 1) (by split <;> omega)
      simp; omega

set_option maxHeartbeats 1000000 in
set_option maxRecDepth 100000 in
theorem model_any (s : ByteArray) (w : World) (hs : s.size ≤ 1048576) :
    Calls Try.prog 16 #[.string s] w fun e w' => e = .returned (.int .i64 (mdl 0 0 0 (byts s) : Int)) ∧ w' = w := by
  go_enter Try.func16, Try.ntmps16
  go_wp2
  go_loop [3, 4, 5] (fun vs vb vp => ∃ (st : Int) (b p : Nat), p ≤ s.size ∧ b ≤ p ∧ vs = .int .i64 st ∧ vb = .int .i64 (b : Int) ∧ vp = .int .i64 (p : Int) ∧ Hid (Live st) ∧ Hid (mdl st b p ((byts s).drop p) = mdl 0 0 0 (byts s))) (fun _ _ vp => s.size - (intOf vp).toNat)
  case atStart => exact ⟨0, 0, 0, by omega, by omega, rfl, rfl, rfl, .inl (.inl rfl), rfl⟩
  case round =>
    obtain ⟨st, b, p, hp, hbp, rfl, rfl, rfl, HL, HM⟩ := hrel
    by_cases hlt : p < s.size
    · have hltb : (p : Int) < (s.size : Int) := by omega
      have hix := idx_at s p (p : Int) rfl hlt
      have HDr := Lib.hid (drop_at s p hlt)
      obtain ⟨c, hc⟩ : ∃ c, (byts s).getD p 0 = c := ⟨_, rfl⟩
      rw [hc] at hix HDr
      clear hc
      have HSt := Lib.hid (step_any st HL.out c)
      have hm := HM.out
      rw [HDr.out, mdl] at hm
      have HLv := Lib.hid (stp_live st HL.out c)
      obtain ⟨nx, hnx⟩ : ∃ nx, stp st c = nx := ⟨_, rfl⟩
      rw [hnx] at hm HSt HLv
      clear hnx
      by_cases h0 : nx < 0
      · rw [if_pos h0] at hm
        have HM2 := Lib.hid hm
        clear hm
        go_wp2_with fail
        refine (HSt.out _).mono ?_
        rintro e w' ⟨rfl, rfl⟩
        go_wp2
        go_ret
        exact ⟨ret_i (by rw [HM2.out]), rfl⟩
      · rw [if_neg h0] at hm
        have hlv := live_bound nx (HLv.out h0)
        have HA := Lib.hid (acc_any nx)
        obtain ⟨ac, hac⟩ : ∃ ac, acc nx = ac := ⟨_, rfl⟩
        rw [hac] at hm HA
        clear hac
        have HM2 := Lib.hid hm
        clear hm
        cases ac
        all_goals
          go_wp2_with fail
          refine (HSt.out _).mono ?_
          rintro e w' ⟨rfl, rfl⟩
          go_wp2_with fail
          refine (HA.out _).mono ?_
          rintro e w' ⟨rfl, rfl⟩
          go_wp2
          go_round
        case rel => exact ⟨nx, b, p + 1, by omega, by omega, rfl, rfl, by go_num, HLv.out h0, HM2.out⟩
        case measure => simp [intOf]; omega
        case rel => exact ⟨nx, p + 1, p + 1, by omega, by omega, rfl, by go_num, by go_num, HLv.out h0, HM2.out⟩
        case measure => simp [intOf]; omega
    · have hltb : ¬ (p : Int) < (s.size : Int) := by omega
      have hm := HM.out
      rw [List.drop_of_length_le (by rw [byts_length]; omega), mdl_nil] at hm
      have HM2 := Lib.hid hm
      clear hm
      go_wp2
      go_ret
      exact ⟨ret_i (by rw [HM2.out]), rfl⟩
end Go.Proofs.Qxb6601128a
