/-
  THE WALK of decimalPrefix.
-/
import Derived.Test.Qxb6601128aPrefix
import Derived.Deep.DeepCutAuto
namespace Go.Proofs.Qxb6601128a
open Go.RowKit

/-- The Boolean b says P. -/
def Tst (b : Bool) (P : Prop) : Prop := b = true ↔ P
theorem tst_t {P : Prop} (h : P) : Tst true P := ⟨fun _ => h, fun _ => rfl⟩
theorem tst_f {P : Prop} (h : ¬ P) : Tst false P := ⟨fun e => by simp at e, fun e => absurd e h⟩

theorem sgn_at (s : ByteArray) (i : Nat) (b : Bool) (h : b = true ↔ (i < s.size ∧ ((byts s).getD i 0 = 43 ∨ (byts s).getD i 0 = 45))) : sgn ((byts s).drop i) = if b then 1 else 0 := by
  by_cases hi : i < s.size
  · rw [drop_at s i hi, sgn_cons]
    by_cases hc : (byts s).getD i 0 = 43 ∨ (byts s).getD i 0 = 45
    · rw [if_pos hc, if_pos (h.2 ⟨hi, hc⟩)]
    · rw [if_neg hc, if_neg (fun e => hc (h.1 e).2)]
  · rw [List.drop_of_length_le (by rw [byts_length]; omega), if_neg (fun e => hi (h.1 e).1)]
    rfl

/-- The ways of a test 'i < len(s) && (s[i] == x || s[i] == y)'. -/
theorem ways2 (s : ByteArray) (i x y : Nat) : (i < s.size ∧ (byts s).getD i 0 = x) ∨ (i < s.size ∧ (byts s).getD i 0 ≠ x ∧ (byts s).getD i 0 = y) ∨ (i < s.size ∧ (byts s).getD i 0 ≠ x ∧ (byts s).getD i 0 ≠ y) ∨ ¬ i < s.size := by
  omega
theorem ways1 (s : ByteArray) (i x : Nat) : (i < s.size ∧ (byts s).getD i 0 = x) ∨ (i < s.size ∧ (byts s).getD i 0 ≠ x) ∨ ¬ i < s.size := by
  omega

theorem dgs_at_le (s : ByteArray) (i : Nat) (hi : i ≤ s.size) : i + dgs ((byts s).drop i) ≤ s.size := by
  have := dgs_le ((byts s).drop i)
  rw [List.length_drop, byts_length] at this
  omega

theorem byts_extract (s : ByteArray) (i : Nat) : byts (s.extract i s.size) = (byts s).drop i := by
  unfold byts
  rw [Lib.extract_data, List.take_of_length_le, List.map_drop]
  rw [List.length_drop]
  exact Nat.le_refl _

/-- decimalPrefix behind "Infinity", in the walk's own numbers. -/
theorem frac_eq (s : ByteArray) (g a i2 f : Nat) (dt : Bool) (hdt : dt = true ↔ (g + a < s.size ∧ (byts s).getD (g + a) 0 = 46))
    (h1 : dt = true → f = dgs ((byts s).drop (g + a + 1)) ∧ i2 = if a = 0 ∧ f = 0 then g + a else g + a + 1 + f) (h0 : dt = false → f = 0 ∧ i2 = g + a) :
    fracP g a ((byts s).drop (g + a)) = if a = 0 ∧ f = 0 then 0 else expo i2 ((byts s).drop i2) := by
  cases dt
  · obtain ⟨rfl, rfl⟩ := h0 rfl
    have hn : ¬ (g + a < s.size ∧ (byts s).getD (g + a) 0 = 46) := fun e => by have := hdt.2 e; simp at this
    by_cases hi : g + a < s.size
    · rw [drop_at s (g + a) hi, fracP_cons, if_neg (fun e => hn ⟨hi, e⟩)]
      simp
    · rw [List.drop_of_length_le (by rw [byts_length]; omega), fracP_nil]
      simp
  · obtain ⟨rfl, h2⟩ := h1 rfl
    obtain ⟨hi, hc⟩ := hdt.1 rfl
    rw [drop_at s (g + a) hi, fracP_cons, if_pos hc]
    by_cases hz : a = 0 ∧ dgs ((byts s).drop (g + a + 1)) = 0
    · rw [if_pos hz, if_pos hz]
    · rw [if_neg hz] at h2
      rw [if_neg hz, if_neg hz, h2, List.drop_drop]

theorem expo_eq (s : ByteArray) (q i3 : Nat) (ex : Bool) (hex : ex = true ↔ (q < s.size ∧ ((byts s).getD q 0 = 101 ∨ (byts s).getD q 0 = 69)))
    (h1 : ex = true → i3 = if 0 < dgs ((byts s).drop (q + 1 + sgn ((byts s).drop (q + 1)))) then q + 1 + sgn ((byts s).drop (q + 1)) + dgs ((byts s).drop (q + 1 + sgn ((byts s).drop (q + 1)))) else q) (h0 : ex = false → i3 = q) :
    expo q ((byts s).drop q) = i3 := by
  cases ex
  · rw [h0 rfl]
    by_cases hi : q < s.size
    · rw [drop_at s q hi, expo_cons, if_neg (fun e => by have := hex.2 ⟨hi, e⟩; simp at this)]
    · rw [List.drop_of_length_le (by rw [byts_length]; omega)]
      rfl
  · obtain ⟨hi, hc⟩ := hex.1 rfl
    rw [h1 rfl, drop_at s q hi, expo_cons, if_pos hc, List.drop_drop]

set_option maxHeartbeats 4000000 in
set_option maxRecDepth 100000 in
theorem prefix_any (s : ByteArray) (hs : s.size ≤ 1048576) (w : World) :
    Calls Try.prog 20 #[.string s] w fun e w' => e = .returned (.int .i64 (dp (byts s) : Int)) ∧ w' = w := by
  go_enter Try.func20, Try.ntmps20
  go_upto_region 2 with fail
  go_cut [23] (fun v wx => ∃ b : Bool, v = .bool b ∧ w = wx ∧ Hid (Tst b (0 < s.size ∧ ((byts s).getD (0) 0 = 43 ∨ (byts s).getD (0) 0 = 45))))
  case first =>
    rcases ways2 s (0) 43 45 with ⟨h1, h2⟩ | ⟨h1, h2, h3⟩ | ⟨h1, h2, h3⟩ | h1
    · have hix := idx_at s (0) (0) (by omega) h1
      have h1b : (0) < (s.size : Int) := by omega
      have HP := Lib.hid (show Tst true (0 < s.size ∧ ((byts s).getD (0) 0 = 43 ∨ (byts s).getD (0) 0 = 45)) from tst_t ⟨h1, .inl h2⟩)
      rw [h2] at hix
      clear h2
      go_wp2_with fail
      go_meet
      case rel => exact ⟨true, rfl, rfl, HP.out⟩
    · have hix := idx_at s (0) (0) (by omega) h1
      have h1b : (0) < (s.size : Int) := by omega
      have HP := Lib.hid (show Tst true (0 < s.size ∧ ((byts s).getD (0) 0 = 43 ∨ (byts s).getD (0) 0 = 45)) from tst_t ⟨h1, .inr h3⟩)
      rw [h3] at hix
      clear h2 h3
      go_wp2_with fail
      go_meet
      case rel => exact ⟨true, rfl, rfl, HP.out⟩
    · have hix := idx_at s (0) (0) (by omega) h1
      have h1b : (0) < (s.size : Int) := by omega
      have HP := Lib.hid (show Tst false (0 < s.size ∧ ((byts s).getD (0) 0 = 43 ∨ (byts s).getD (0) 0 = 45)) from tst_f (fun e => e.2.elim h2 h3))
      obtain ⟨c, hc⟩ : ∃ c, (byts s).getD (0) 0 = c := ⟨_, rfl⟩
      rw [hc] at hix h2 h3
      clear hc
      have k2 : ((c : Int) == 43) = false := by simp; omega
      have k3 : ((c : Int) == 45) = false := by simp; omega
      clear h2 h3
      go_wp2_with fail
      go_meet
      case rel => exact ⟨false, rfl, rfl, HP.out⟩
    · have h1b : ¬ (0) < (s.size : Int) := by omega
      have HP := Lib.hid (show Tst false (0 < s.size ∧ ((byts s).getD (0) 0 = 43 ∨ (byts s).getD (0) 0 = 45)) from tst_f (fun e => h1 e.1))
      go_wp2_with fail
      go_meet
      case rel => exact ⟨false, rfl, rfl, HP.out⟩
  case rest =>
  obtain ⟨b, rfl, rfl, HB⟩ := hcut
  go_upto_if 23 with fail
  go_cut [3] (fun v wx => ∃ g : Nat, v = .int .i64 (g : Int) ∧ w = wx ∧ g ≤ s.size ∧ Hid (g = sgn (byts s)))
  case first =>
    have hg := sgn_at s 0 b HB.out
    rw [List.drop_zero] at hg
    have HS := Lib.hid hg
    clear hg
    cases b
    · go_wp2_with fail
      go_meet
      case rel => exact ⟨0, rfl, rfl, by omega, HS.out.symm⟩
    · have hp := (HB.out.1 rfl).1
      go_wp2_with fail
      go_meet
      case rel => exact ⟨1, rfl, rfl, by omega, HS.out.symm⟩
  case rest =>
  obtain ⟨g, rfl, rfl, hg, HG⟩ := hcut
  clear HB
  have hex : (s.extract g s.size).size ≤ 1048576 := by rw [ByteArray.size_extract]; omega
  have HI := Lib.hid (hasInf_any (s.extract g s.size) hex)
  rw [byts_extract] at HI
  have HDp := Lib.hid (show dp (byts s) = if ((byts s).drop g).take 8 = infL then g + 8 else fracP g (dgs ((byts s).drop g)) ((byts s).drop (g + dgs ((byts s).drop g))) by unfold dp numP; rw [← HG.out, List.drop_drop])
  have hal := dgs_at_le s g hg
  have HA := Lib.hid (digitsAt_any s (g : Int) g rfl hg hs)
  obtain ⟨a, ha⟩ : ∃ a, dgs ((byts s).drop g) = a := ⟨_, rfl⟩
  rw [ha] at HDp hal HA
  clear ha hex
  by_cases hinf : ((byts s).drop g).take 8 = infL
  · rw [decide_eq_true hinf] at HI
    have hdp := HDp.out
    rw [if_pos hinf] at hdp
    have HD2 := Lib.hid hdp
    have HInf := Lib.hid hinf
    clear hdp hinf
    go_wp2_with (go_at_call 24; refine (HI.out _).mono ?_; rintro e w' ⟨rfl, hw'⟩; obtain rfl := hw'.symm)
    go_ret
    exact ⟨ret_i (by rw [HD2.out]; omega), rfl⟩
  rw [decide_eq_false hinf] at HI
  have hdp := HDp.out
  rw [if_neg hinf] at hdp
  have HD2 := Lib.hid hdp
  clear hdp hinf HDp
  go_upto_region 9 with (first | (go_at_call 24; refine (HI.out _).mono ?_; rintro e w' ⟨rfl, hw'⟩; obtain rfl := hw'.symm) | (go_at_call 25; refine (HA.out _).mono ?_; rintro e w' ⟨rfl, hw'⟩; obtain rfl := hw'.symm))
  clear HI HA
  go_upto_region 9 with fail
  go_cut [47] (fun v wx => ∃ b : Bool, v = .bool b ∧ w = wx ∧ Hid (Tst b (g + a < s.size ∧ (byts s).getD (g + a) 0 = 46)))
  case first =>
    rcases ways1 s (g + a) 46 with ⟨h1, h2⟩ | ⟨h1, h2⟩ | h1
    · have hix := idx_at s (g + a) ((g : Int) + (a : Int)) (by omega) h1
      have h1b : ((g : Int) + (a : Int)) < (s.size : Int) := by omega
      have HP := Lib.hid (show Tst true (g + a < s.size ∧ (byts s).getD (g + a) 0 = 46) from tst_t ⟨h1, h2⟩)
      rw [h2] at hix
      clear h2
      go_wp2_with fail
      go_meet
      case rel => exact ⟨true, rfl, rfl, HP.out⟩
    · have hix := idx_at s (g + a) ((g : Int) + (a : Int)) (by omega) h1
      have h1b : ((g : Int) + (a : Int)) < (s.size : Int) := by omega
      have HP := Lib.hid (show Tst false (g + a < s.size ∧ (byts s).getD (g + a) 0 = 46) from tst_f (fun e => h2 e.2))
      obtain ⟨c, hc⟩ : ∃ c, (byts s).getD (g + a) 0 = c := ⟨_, rfl⟩
      rw [hc] at hix h2
      clear hc
      have k2 : ((c : Int) == 46) = false := by simp; omega
      clear h2
      go_wp2_with fail
      go_meet
      case rel => exact ⟨false, rfl, rfl, HP.out⟩
    · have h1b : ¬ ((g : Int) + (a : Int)) < (s.size : Int) := by omega
      have HP := Lib.hid (show Tst false (g + a < s.size ∧ (byts s).getD (g + a) 0 = 46) from tst_f (fun e => h1 e.1))
      go_wp2_with fail
      go_meet
      case rel => exact ⟨false, rfl, rfl, HP.out⟩
  case rest =>
  obtain ⟨dt, rfl, rfl, HB⟩ := hcut
  go_upto_if 47 with fail
  go_cut [3, 5] (fun v3 v5 wx => ∃ i2 f : Nat, v3 = .int .i64 (i2 : Int) ∧ v5 = .int .i64 (f : Int) ∧ w = wx ∧ i2 ≤ s.size ∧ f ≤ s.size ∧ Hid (fracP g a ((byts s).drop (g + a)) = if a = 0 ∧ f = 0 then 0 else expo i2 ((byts s).drop i2)))
  case first =>
    cases dt
    · have HX := Lib.hid (frac_eq s g a (g + a) 0 false HB.out (fun e => by simp at e) (fun _ => ⟨rfl, rfl⟩))
      go_wp2_with fail
      go_meet
      case rel => exact ⟨g + a, 0, by go_num, rfl, rfl, by omega, by omega, by have h := HX.out; show _ = _; simpa using h⟩
    · have hi := (HB.out.1 rfl).1
      have HF := Lib.hid (digitsAt_any s ((g : Int) + (a : Int) + 1) (g + a + 1) (by omega) (by omega) hs)
      have hfl := dgs_at_le s (g + a + 1) (by omega)
      obtain ⟨f, hf⟩ : ∃ f, dgs ((byts s).drop (g + a + 1)) = f := ⟨_, rfl⟩
      have HFr := Lib.hid (fun i2 h => frac_eq s g a i2 f true HB.out (fun _ => ⟨hf.symm, h⟩) (fun e => by simp at e))
      rw [hf] at HF hfl
      clear hf
      by_cases ha0 : 0 < a
      · have ha0b : (0 : Int) < (a : Int) := by omega
        have HX := Lib.hid (HFr.out (g + a + 1 + f) (by rw [if_neg (by omega)]))
        go_wp2_with (go_at_call 25; refine (HF.out _).mono ?_; rintro e w' ⟨rfl, hw'⟩; obtain rfl := hw'.symm)
        go_meet
        case rel => exact ⟨g + a + 1 + f, f, by go_num, rfl, rfl, by omega, by omega, HX.out⟩
      · have ha0b : ¬ (0 : Int) < (a : Int) := by omega
        by_cases hf0 : 0 < f
        · have hf0b : (0 : Int) < (f : Int) := by omega
          have HX := Lib.hid (HFr.out (g + a + 1 + f) (by rw [if_neg (by omega)]))
          go_wp2_with (go_at_call 25; refine (HF.out _).mono ?_; rintro e w' ⟨rfl, hw'⟩; obtain rfl := hw'.symm)
          go_meet
          case rel => exact ⟨g + a + 1 + f, f, by go_num, rfl, rfl, by omega, by omega, HX.out⟩
        · have hf0b : ¬ (0 : Int) < (f : Int) := by omega
          have HX := Lib.hid (HFr.out (g + a) (by rw [if_pos (by omega)]))
          go_wp2_with (go_at_call 25; refine (HF.out _).mono ?_; rintro e w' ⟨rfl, hw'⟩; obtain rfl := hw'.symm)
          go_meet
          case rel => exact ⟨g + a, f, by go_num, rfl, rfl, by omega, by omega, HX.out⟩
  case rest =>
  obtain ⟨i2, f, rfl, rfl, rfl, hi2, hfl, HFr⟩ := hcut
  clear HB
  have hdp := HD2.out
  rw [HFr.out] at hdp
  have HD3 := Lib.hid hdp
  clear hdp HD2 HFr
  go_upto_region 13 with fail
  go_cut [67] (fun v wx => ∃ b : Bool, v = .bool b ∧ w = wx ∧ Hid (Tst b (a = 0 ∧ f = 0)))
  case first =>
    by_cases ha0 : a = 0
    · have ha0b : ((a : Int) == 0) = true := by simp; omega
      have HA0 := Lib.hid ha0
      clear ha0
      by_cases hf0 : f = 0
      · have hf0b : ((f : Int) == 0) = true := by simp; omega
        have HP := Lib.hid (tst_t (P := a = 0 ∧ f = 0) ⟨HA0.out, hf0⟩)
        clear hf0
        go_wp2_with fail
        go_meet
        case rel => exact ⟨true, rfl, rfl, HP.out⟩
      · have hf0b : ((f : Int) == 0) = false := by simp; omega
        have HP := Lib.hid (tst_f (P := a = 0 ∧ f = 0) (fun e => hf0 e.2))
        clear hf0
        go_wp2_with fail
        go_meet
        case rel => exact ⟨false, rfl, rfl, HP.out⟩
    · have ha0b : ((a : Int) == 0) = false := by simp; omega
      have HP := Lib.hid (tst_f (P := a = 0 ∧ f = 0) (fun e => ha0 e.1))
      clear ha0
      go_wp2_with fail
      go_meet
      case rel => exact ⟨false, rfl, rfl, HP.out⟩
  case rest =>
  obtain ⟨b, rfl, rfl, HB⟩ := hcut
  have hdp := HD3.out
  cases b
  case true =>
    rw [if_pos (HB.out.1 rfl)] at hdp
    have HD4 := Lib.hid hdp
    clear hdp
    go_wp2
    go_ret
    exact ⟨ret_i (by rw [HD4.out]; rfl), rfl⟩
  rw [if_neg (fun e => by have := HB.out.2 e; simp at this)] at hdp
  have HD4 := Lib.hid hdp
  clear hdp HD3 HB
  go_upto_region 15 with fail
  go_cut [83] (fun v wx => ∃ b : Bool, v = .bool b ∧ w = wx ∧ Hid (Tst b (i2 < s.size ∧ ((byts s).getD (i2) 0 = 101 ∨ (byts s).getD (i2) 0 = 69))))
  case first =>
    rcases ways2 s (i2) 101 69 with ⟨h1, h2⟩ | ⟨h1, h2, h3⟩ | ⟨h1, h2, h3⟩ | h1
    · have hix := idx_at s (i2) ((i2 : Int)) (by omega) h1
      have h1b : ((i2 : Int)) < (s.size : Int) := by omega
      have HP := Lib.hid (show Tst true (i2 < s.size ∧ ((byts s).getD (i2) 0 = 101 ∨ (byts s).getD (i2) 0 = 69)) from tst_t ⟨h1, .inl h2⟩)
      rw [h2] at hix
      clear h2
      go_wp2_with fail
      go_meet
      case rel => exact ⟨true, rfl, rfl, HP.out⟩
    · have hix := idx_at s (i2) ((i2 : Int)) (by omega) h1
      have h1b : ((i2 : Int)) < (s.size : Int) := by omega
      have HP := Lib.hid (show Tst true (i2 < s.size ∧ ((byts s).getD (i2) 0 = 101 ∨ (byts s).getD (i2) 0 = 69)) from tst_t ⟨h1, .inr h3⟩)
      rw [h3] at hix
      clear h2 h3
      go_wp2_with fail
      go_meet
      case rel => exact ⟨true, rfl, rfl, HP.out⟩
    · have hix := idx_at s (i2) ((i2 : Int)) (by omega) h1
      have h1b : ((i2 : Int)) < (s.size : Int) := by omega
      have HP := Lib.hid (show Tst false (i2 < s.size ∧ ((byts s).getD (i2) 0 = 101 ∨ (byts s).getD (i2) 0 = 69)) from tst_f (fun e => e.2.elim h2 h3))
      obtain ⟨c, hc⟩ : ∃ c, (byts s).getD (i2) 0 = c := ⟨_, rfl⟩
      rw [hc] at hix h2 h3
      clear hc
      have k2 : ((c : Int) == 101) = false := by simp; omega
      have k3 : ((c : Int) == 69) = false := by simp; omega
      clear h2 h3
      go_wp2_with fail
      go_meet
      case rel => exact ⟨false, rfl, rfl, HP.out⟩
    · have h1b : ¬ ((i2 : Int)) < (s.size : Int) := by omega
      have HP := Lib.hid (show Tst false (i2 < s.size ∧ ((byts s).getD (i2) 0 = 101 ∨ (byts s).getD (i2) 0 = 69)) from tst_f (fun e => h1 e.1))
      go_wp2_with fail
      go_meet
      case rel => exact ⟨false, rfl, rfl, HP.out⟩
  case rest =>
  obtain ⟨ex, rfl, rfl, HB⟩ := hcut
  go_upto_if 83 with fail
  go_cut [3] (fun v wx => ∃ i3 : Nat, v = .int .i64 (i3 : Int) ∧ w = wx ∧ Hid (expo i2 ((byts s).drop i2) = i3))
  case first =>
    cases ex
    · have HX := Lib.hid (expo_eq s i2 i2 false HB.out (fun e => by simp at e) (fun _ => rfl))
      go_wp2_with fail
      go_meet
      case rel => exact ⟨i2, rfl, rfl, HX.out⟩
    · have hi := (HB.out.1 rfl).1
      go_upto_region 17 with fail
      go_cut [101] (fun v wx => ∃ b : Bool, v = .bool b ∧ w = wx ∧ Hid (Tst b (i2 + 1 < s.size ∧ ((byts s).getD (i2 + 1) 0 = 43 ∨ (byts s).getD (i2 + 1) 0 = 45))))
      case first =>
        rcases ways2 s (i2 + 1) 43 45 with ⟨h1, h2⟩ | ⟨h1, h2, h3⟩ | ⟨h1, h2, h3⟩ | h1
        · have hix := idx_at s (i2 + 1) ((i2 : Int) + 1) (by omega) h1
          have h1b : ((i2 : Int) + 1) < (s.size : Int) := by omega
          have HP := Lib.hid (show Tst true (i2 + 1 < s.size ∧ ((byts s).getD (i2 + 1) 0 = 43 ∨ (byts s).getD (i2 + 1) 0 = 45)) from tst_t ⟨h1, .inl h2⟩)
          rw [h2] at hix
          clear h2
          go_wp2_with fail
          go_meet
          case rel => exact ⟨true, rfl, rfl, HP.out⟩
        · have hix := idx_at s (i2 + 1) ((i2 : Int) + 1) (by omega) h1
          have h1b : ((i2 : Int) + 1) < (s.size : Int) := by omega
          have HP := Lib.hid (show Tst true (i2 + 1 < s.size ∧ ((byts s).getD (i2 + 1) 0 = 43 ∨ (byts s).getD (i2 + 1) 0 = 45)) from tst_t ⟨h1, .inr h3⟩)
          rw [h3] at hix
          clear h2 h3
          go_wp2_with fail
          go_meet
          case rel => exact ⟨true, rfl, rfl, HP.out⟩
        · have hix := idx_at s (i2 + 1) ((i2 : Int) + 1) (by omega) h1
          have h1b : ((i2 : Int) + 1) < (s.size : Int) := by omega
          have HP := Lib.hid (show Tst false (i2 + 1 < s.size ∧ ((byts s).getD (i2 + 1) 0 = 43 ∨ (byts s).getD (i2 + 1) 0 = 45)) from tst_f (fun e => e.2.elim h2 h3))
          obtain ⟨c, hc⟩ : ∃ c, (byts s).getD (i2 + 1) 0 = c := ⟨_, rfl⟩
          rw [hc] at hix h2 h3
          clear hc
          have k2 : ((c : Int) == 43) = false := by simp; omega
          have k3 : ((c : Int) == 45) = false := by simp; omega
          clear h2 h3
          go_wp2_with fail
          go_meet
          case rel => exact ⟨false, rfl, rfl, HP.out⟩
        · have h1b : ¬ ((i2 : Int) + 1) < (s.size : Int) := by omega
          have HP := Lib.hid (show Tst false (i2 + 1 < s.size ∧ ((byts s).getD (i2 + 1) 0 = 43 ∨ (byts s).getD (i2 + 1) 0 = 45)) from tst_f (fun e => h1 e.1))
          go_wp2_with fail
          go_meet
          case rel => exact ⟨false, rfl, rfl, HP.out⟩
      case rest =>
      obtain ⟨b, rfl, rfl, HB2⟩ := hcut
      have HS := Lib.hid (sgn_at s (i2 + 1) b HB2.out)
      go_upto_if 101 with fail
      go_cut [6] (fun v wx => ∃ j : Nat, v = .int .i64 (j : Int) ∧ w = wx ∧ j ≤ s.size ∧ Hid (j = i2 + 1 + sgn ((byts s).drop (i2 + 1))))
      case first =>
        cases b
        · go_wp2_with fail
          go_meet
          case rel => exact ⟨i2 + 1, by go_num, rfl, by omega, by show _ = _; rw [HS.out]; rfl⟩
        · have hp := (HB2.out.1 rfl).1
          go_wp2_with fail
          go_meet
          case rel => exact ⟨i2 + 2, by go_num, rfl, by omega, by show _ = _; rw [HS.out]; rfl⟩
      case rest =>
      obtain ⟨j, rfl, rfl, hj, HJ⟩ := hcut
      have HMm := Lib.hid (digitsAt_any s (j : Int) j rfl hj hs)
      have hml := dgs_at_le s j hj
      have HX := Lib.hid (fun i3 h => expo_eq s i2 i3 true HB.out (fun _ => h) (fun e => by simp at e))
      rw [← HJ.out] at HX
      obtain ⟨m, hm⟩ : ∃ m, dgs ((byts s).drop j) = m := ⟨_, rfl⟩
      rw [hm] at HMm hml HX
      clear hm HS HB2
      by_cases hm0 : 0 < m
      · have hm0b : (0 : Int) < (m : Int) := by omega
        have HX2 := Lib.hid (HX.out (j + m) (by rw [if_pos hm0]))
        go_wp2_with (go_at_call 25; refine (HMm.out _).mono ?_; rintro e w' ⟨rfl, hw'⟩; obtain rfl := hw'.symm)
        go_meet
        case rel => exact ⟨j + m, by go_num, rfl, HX2.out⟩
      · have hm0b : ¬ (0 : Int) < (m : Int) := by omega
        have HX2 := Lib.hid (HX.out i2 (by rw [if_neg hm0]))
        go_wp2_with (go_at_call 25; refine (HMm.out _).mono ?_; rintro e w' ⟨rfl, hw'⟩; obtain rfl := hw'.symm)
        go_meet
        case rel => exact ⟨i2, by go_num, rfl, HX2.out⟩
  case rest =>
  obtain ⟨i3, rfl, rfl, HX⟩ := hcut
  have HD5 := Lib.hid (HD4.out.trans HX.out)
  go_wp2
  go_ret
  exact ⟨ret_i (by rw [HD5.out]), rfl⟩
end Go.Proofs.Qxb6601128a
