/-
  THE WALKS of the law's own model: isDigitB1, canonicalDecimalB1, decimalLessB1, modelArrayIndexB1.
-/
import Derived.Test.Qxb6601128aDoorIdx
import Derived.Deep.QuietTactic
import Derived.BigQuiet
import Derived.Deep.Draws
namespace Go.Proofs.Qxb6601128aDoor
open Go.RowKit Go.Lib

/-! ### Plain words -/
def digB (c : Nat) : Bool := decide (48 ≤ c ∧ c ≤ 57)
theorem digB_t {c : Nat} (h : 48 ≤ c ∧ c ≤ 57) : digB c = true := decide_eq_true h
theorem digB_f {c : Nat} (h : ¬ (48 ≤ c ∧ c ≤ 57)) : digB c = false := decide_eq_false h

theorem bl_drop : ∀ (p : Nat) (a b : List UInt8), (∀ t, t < p → a.getD t 0 = b.getD t 0) → p ≤ a.length → p ≤ b.length → Op.bytesLess a b = Op.bytesLess (a.drop p) (b.drop p)
  | 0, a, b, _, _, _ => rfl
  | p + 1, [], _, _, h, _ => by simp at h
  | p + 1, _ :: _, [], _, _, h => by simp at h
  | p + 1, x :: a, y :: b, h, ha, hb => by
    have e : x = y := by simpa using h 0 (by omega)
    subst e
    rw [List.drop_succ_cons, List.drop_succ_cons, ← bl_drop p a b (fun t ht => by simpa using h (t + 1) (by omega)) (by simpa using ha) (by simpa using hb)]
    simp [Op.bytesLess]

theorem drop_at (s : ByteArray) (i : Nat) (hi : i < s.size) : (bts s).drop i = (bts s).getD i 0 :: (bts s).drop (i + 1) := by
  have hl : i < (bts s).length := by rw [bts_length]; exact hi
  rw [List.drop_eq_getElem_cons hl, List.getD_eq_getElem?_getD, List.getElem?_eq_getElem hl]
  rfl

theorem take_val (s : ByteArray) (i : Nat) (hi : i < s.size) : val ((bts s).take (i + 1)) = val ((bts s).take i) * 10 + (((bts s).getD i 0).toNat - 48) := by
  have hl : i < (bts s).length := by rw [bts_length]; exact hi
  rw [List.take_succ_eq_append_getElem hl, val_snoc, List.getD_eq_getElem?_getD, List.getElem?_eq_getElem hl]
  rfl

theorem val_take_le (l : List UInt8) (i : Nat) : val (l.take i) ≤ val l := by
  have h : val l = valF (val (l.take i)) (l.drop i) := by
    rw [val_valF, val_valF]
    unfold valF
    rw [← List.foldl_append, List.take_append_drop]
  rw [h]
  exact valF_ge _ _

/-! ### The walks -/
theorem isDigit_any (c : Nat) (w : World) : Calls Tryd.prog 16 #[.int .u8 (c : Int)] w fun e w' => e = .returned (.bool (digB c)) ∧ w' = w := by
  by_cases h1 : (48 : Int) ≤ (c : Int)
  · by_cases h2 : (c : Int) ≤ 57
    · have HD := Lib.hid (digB_t (c := c) (by omega))
      go_enter Tryd.func16, Tryd.ntmps16
      go_wp2
      go_ret
      exact ⟨ret_b HD.out.symm, rfl⟩
    · have HD := Lib.hid (digB_f (c := c) (by omega))
      go_enter Tryd.func16, Tryd.ntmps16
      go_wp2
      go_ret
      exact ⟨ret_b HD.out.symm, rfl⟩
  · have HD := Lib.hid (digB_f (c := c) (by omega))
    go_enter Tryd.func16, Tryd.ntmps16
    go_wp2
    go_ret
    exact ⟨ret_b HD.out.symm, rfl⟩

/-- How a call of canonicalDecimalB1 ends. -/
def CanOut (s : ByteArray) (e : Ending) : Prop := (Canon (bts s) ∧ e = .returned (.bool true)) ∨ (¬ Canon (bts s) ∧ e = .returned (.bool false))

set_option maxHeartbeats 1000000 in
set_option maxRecDepth 100000 in
theorem can_any (s : ByteArray) (hs : s.size ≤ 1048576) (w : World) :
    Calls Tryd.prog 13 #[.string s] w fun e w' => CanOut s e ∧ w' = w := by
  by_cases h0 : s.size = 0
  · have h0b : ((s.size : Int) == 0) = true := by rw [beq_iff_eq]; omega
    have HN := Lib.hid (show ¬ Canon (bts s) from fun e => e.1 (List.length_eq_zero_iff.1 (by rw [bts_length]; exact h0)))
    clear h0
    go_enter Tryd.func13, Tryd.ntmps13
    go_wp2
    go_ret
    exact ⟨.inr ⟨HN.out, rfl⟩, rfl⟩
  have h0b : ((s.size : Int) == 0) = false := by rw [beq_eq_false_iff_ne]; omega
  go_enter Tryd.func13, Tryd.ntmps13
  go_wp2
  go_loop [3] (fun vk => ∃ k : Nat, k ≤ s.size ∧ vk = .int .i64 (k : Int) ∧ Hid (∀ t, t < k → IsD ((bts s).getD t 0))) (fun vk => s.size - (RowKit.intOf vk).toNat)
  case atStart => exact ⟨0, by omega, rfl, fun t ht => by omega⟩
  case round =>
    obtain ⟨k, hk, rfl, HD⟩ := hrel
    by_cases hlt : k < s.size
    · have hltb : (k : Int) < (s.size : Int) := by omega
      have hix := idx_at s k (k : Int) rfl hlt
      have HMem := Lib.hid (mem_at s k hlt)
      obtain ⟨c, hc⟩ : ∃ c, (bts s).getD k 0 = c := ⟨_, rfl⟩
      rw [hc] at hix HMem
      have HCk := Lib.hid hc
      clear hc
      obtain ⟨cn, hcn⟩ : ∃ cn : Nat, c.toNat = cn := ⟨_, rfl⟩
      rw [hcn] at hix
      have HCN := Lib.hid hcn
      clear hcn
      have HI := Lib.hid (isDigit_any cn)
      by_cases hd : 48 ≤ cn ∧ cn ≤ 57
      · rw [digB_t hd] at HI
        go_wp2_with (go_at_call 16; refine (HI.out _).mono ?_; rintro e w' ⟨rfl, rfl⟩)
        go_round
        case rel =>
          refine ⟨k + 1, by omega, by go_num, fun t ht => ?_⟩
          by_cases e : t = k
          · subst e
            rw [HCk.out]
            unfold IsD
            rw [HCN.out]
            exact hd
          · exact HD.out t (by omega)
        case measure => simp [RowKit.intOf]; omega
      · rw [digB_f hd] at HI
        have HN := Lib.hid (show ¬ Canon (bts s) from fun e => by have h := e.2.1 c HMem.out; unfold IsD at h; rw [HCN.out] at h; exact hd h)
        clear hd
        go_wp2_with (go_at_call 16; refine (HI.out _).mono ?_; rintro e w' ⟨rfl, rfl⟩)
        go_ret
        exact ⟨.inr ⟨HN.out, rfl⟩, rfl⟩
    · have hltb : ¬ (k : Int) < (s.size : Int) := by omega
      have HAll := Lib.hid (all_of s (fun i hi => HD.out i (by omega)))
      have hne : bts s ≠ [] := fun e => h0 (by rw [← bts_length, e]; rfl)
      have HNe := Lib.hid hne
      clear hne
      by_cases h1 : s.size = 1
      · have h1b : ((s.size : Int) == 1) = true := by rw [beq_iff_eq]; omega
        have HCn := Lib.hid (show Canon (bts s) from ⟨HNe.out, HAll.out, .inl (by rw [bts_length]; exact h1)⟩)
        clear h1 h0 h0b
        go_wp2
        go_ret
        exact ⟨.inl ⟨HCn.out, rfl⟩, rfl⟩
      · have h1b : ((s.size : Int) == 1) = false := by rw [beq_eq_false_iff_ne]; omega
        have hix := idx_at s 0 0 rfl (by omega)
        have h00 : (bts s)[0]? = some ((bts s).getD 0 0) := by
          have hl : 0 < (bts s).length := by rw [bts_length]; omega
          rw [List.getD_eq_getElem?_getD, List.getElem?_eq_getElem hl]
          rfl
        have H00 := Lib.hid h00
        clear h00
        obtain ⟨c, hc⟩ : ∃ c, (bts s).getD 0 0 = c := ⟨_, rfl⟩
        rw [hc] at hix H00
        clear hc
        by_cases h48 : c = 48
        · have HN := Lib.hid (show ¬ Canon (bts s) from fun e => by
            rcases e.2.2 with h | h
            · exact h1 (by rw [← bts_length]; exact h)
            · exact h (by rw [H00.out, h48]))
          rw [h48] at hix
          have hix' : ∀ w, (Instr.index 9 (.string s) (.int .i64 0)).run Tryd.prog w = .ok (.int .u8 48) w := hix
          clear hix h48
          go_wp2
          go_ret
          exact ⟨.inr ⟨HN.out, rfl⟩, rfl⟩
        · have HCn := Lib.hid (show Canon (bts s) from ⟨HNe.out, HAll.out, .inr (by rw [H00.out]; intro e; injection e with e; exact h48 e)⟩)
          have hcb : ((c.toNat : Int) == 48) = false := by
            rw [beq_eq_false_iff_ne]
            intro e
            exact h48 (UInt8.toNat_inj.1 (by have : (48 : UInt8).toNat = 48 := rfl; omega))
          obtain ⟨cn, hcn⟩ : ∃ cn : Nat, c.toNat = cn := ⟨_, rfl⟩
          rw [hcn] at hix hcb
          clear hcn h48
          go_wp2
          go_ret
          exact ⟨.inl ⟨HCn.out, ret_b (a := ((cn : Int) != 48)) (by rw [bne, hcb]; rfl)⟩, rfl⟩

theorem drew3 (w : World) (a b c : Nat) : ∃ q, ((w.drewN a).drewN b).drewN c = w.drewN q := ⟨a + (b + c), by rw [World.drewN_drewN, World.drewN_drewN]⟩

set_option maxHeartbeats 1000000 in
set_option maxRecDepth 100000 in
theorem less_any (a b : ByteArray) (ha : a.size ≤ 1048576) (w : World) :
    Calls Tryd.prog 14 #[.string a, .string b] w fun e w' => e = .returned (.bool (dless (bts a) (bts b))) ∧ ∃ q, w' = w.drewN q := by
  by_cases hl : a.size = b.size
  · have hlb : ((a.size : Int) != (b.size : Int)) = false := by rw [bne_eq_false_iff_eq]; omega
    have HL := Lib.hid (show dless (bts a) (bts b) = Op.bytesLess (bts a) (bts b) by unfold dless; rw [if_pos (by rw [bts_length, bts_length]; exact hl)])
    have hab : a.size ≤ b.size := by omega
    have hba : b.size ≤ a.size := by omega
    clear hl
    go_enter Tryd.func14, Tryd.ntmps14
    go_wp2
    go_loopw [5] (fun vk wr => ∃ k q : Nat, k ≤ a.size ∧ vk = .int .i64 (k : Int) ∧ wr = w.drewN q ∧ Hid (∀ t, t < k → (bts a).getD t 0 = (bts b).getD t 0)) (fun vk _ => a.size - (RowKit.intOf vk).toNat)
    case atStart => exact ⟨0, 0, by omega, rfl, rfl, fun t ht => by omega⟩
    case round =>
      obtain ⟨k, q, hk, rfl, hwr, HE⟩ := hrel
      subst hwr
      have hdr := bl_drop k (bts a) (bts b) HE.out (by rw [bts_length]; exact hk) (by rw [bts_length]; omega)
      by_cases hlt : k < a.size
      · have hltb : (k : Int) < (a.size : Int) := by omega
        have hltc : (k : Int) < (b.size : Int) := by omega
        have hia := idx_at a k (k : Int) rfl hlt
        have hib := idx_at b k (k : Int) rfl (by omega)
        rw [drop_at a k hlt, drop_at b k (by omega)] at hdr
        obtain ⟨x, hx⟩ : ∃ x, (bts a).getD k 0 = x := ⟨_, rfl⟩
        obtain ⟨y, hy⟩ : ∃ y, (bts b).getD k 0 = y := ⟨_, rfl⟩
        rw [hx] at hia hdr
        rw [hy] at hib hdr
        have HXY := Lib.hid (And.intro hx hy)
        clear hx hy
        rw [Op.bytesLess] at hdr
        have HDr := Lib.hid hdr
        clear hdr
        obtain ⟨xn, hxn⟩ : ∃ xn : Nat, x.toNat = xn := ⟨_, rfl⟩
        obtain ⟨yn, hyn⟩ : ∃ yn : Nat, y.toNat = yn := ⟨_, rfl⟩
        rw [hxn] at hia
        rw [hyn] at hib
        have HN := Lib.hid (And.intro hxn hyn)
        clear hxn hyn
        by_cases hxy : xn = yn
        · have hxyb : ((xn : Int) != (yn : Int)) = false := by rw [bne_eq_false_iff_eq]; omega
          have Hxy := Lib.hid hxy
          clear hxy
          go_wp2_with fail
          go_quiet (fail)
          go_wp2
          go_roundw
          case rel =>
            refine ⟨k + 1, q + nq, by omega, by go_num, rfl, fun t ht => ?_⟩
            by_cases e : t = k
            · subst e
              rw [HXY.out.1, HXY.out.2]
              exact UInt8.toNat_inj.1 (by rw [HN.out.1, HN.out.2]; exact Hxy.out)
            · exact HE.out t (by omega)
          case measure => simp [RowKit.intOf]; omega
        · have hxyb : ((xn : Int) != (yn : Int)) = true := by rw [bne_iff_ne]; omega
          have HR := Lib.hid (show dless (bts a) (bts b) = decide ((xn : Int) < (yn : Int)) by
            rw [HL.out, HDr.out]
            have e1 : (x == y) = false := by
              rw [beq_eq_false_iff_ne]
              intro e
              exact hxy (by rw [← HN.out.1, ← HN.out.2, e])
            rw [e1, Bool.false_and, Bool.or_false]
            have h1 := HN.out.1
            have h2 := HN.out.2
            by_cases h : x < y
            · rw [decide_eq_true h, decide_eq_true (by have := less_iff.1 h; omega)]
            · rw [decide_eq_false h, decide_eq_false (fun e => h (less_iff.2 (by omega)))])
          clear hxy
          go_wp2_with fail
          go_quiet (fail)
          go_wp2_with fail
          go_quiet (fail)
          go_wp2
          go_ret
          exact ⟨ret_b (a := decide (xn < yn)) (by rw [HR.out]; simp), drew3 w _ _ _⟩
      · have hltb : ¬ (k : Int) < (a.size : Int) := by omega
        rw [List.drop_of_length_le (by rw [bts_length]; omega), List.drop_of_length_le (by rw [bts_length]; omega)] at hdr
        have HR := Lib.hid (show dless (bts a) (bts b) = false by rw [HL.out, hdr]; rfl)
        clear hdr
        go_wp2
        go_ret
        exact ⟨ret_b HR.out.symm, _, rfl⟩
  · have hlb : ((a.size : Int) != (b.size : Int)) = true := by rw [bne_iff_ne]; omega
    have HL := Lib.hid (show dless (bts a) (bts b) = decide ((a.size : Int) < (b.size : Int)) by
      unfold dless
      rw [if_neg (by rw [bts_length, bts_length]; exact hl), bts_length, bts_length]
      simp)
    clear hl
    go_enter Tryd.func14, Tryd.ntmps14
    go_wp2
    go_ret
    exact ⟨ret_b (a := decide (a.size < b.size)) (by rw [HL.out]; simp), 0, rfl⟩

theorem below_drewN {w w' : World} {B q : Nat} (h : Below B w w') : Below B w (w'.drewN q) := ⟨h.os, h.tape, h.output, h.size, h.block⟩

set_option maxHeartbeats 2000000 in
set_option maxRecDepth 100000 in
theorem model_any (s : ByteArray) (n : Int) (w : World) (hs : s.size ≤ 1048576) (hn1 : -9223372036854775808 ≤ n) (hn2 : n ≤ 9223372036854775807) :
    Calls Tryd.prog 9 #[.string s, .int .i64 n] w fun e w' => ArrOut s n w e w' := by
  have HCan := Lib.hid (can_any s hs)
  by_cases hcan : Canon (bts s)
  · have HC := Lib.hid (fun w => (HCan.out w).mono (R' := fun e w' => e = .returned (.bool true) ∧ w' = w) (fun e w' h => ⟨by
      rcases h.1 with ⟨_, h1⟩ | ⟨h1, _⟩
      · exact h1
      · exact absurd hcan h1, h.2⟩))
    have HCn := Lib.hid hcan
    clear hcan HCan
    by_cases hn0 : n ≤ 0
    · have HA := Lib.hid (ans_no (s := s) (n := n) (fun e => by omega))
      go_enter Tryd.func9, Tryd.ntmps9
      go_wp2_with (go_at_call 13; refine (HC.out _).mono ?_; rintro e w' ⟨rfl, rfl⟩)
      go_ret2
      exact ⟨0, false, rfl, HA.out, Below.refl _ _⟩
    · obtain ⟨u, rfl⟩ : ∃ u : Nat, n = (u : Int) := ⟨n.toNat, by omega⟩
      have HP := Lib.hid (pos_any u (by omega) (by omega) w)
      have HLs := Lib.hid (dless_val HCn.out u)
      have h19 := dec_len19 u (by omega)
      go_enter Tryd.func9, Tryd.ntmps9
      go_wp2_with (go_at_call 13; refine (HC.out _).mono ?_; rintro e w' ⟨rfl, hw'⟩; obtain rfl := hw'.symm)
      refine HP.out.mono ?_
      rintro e w1 ⟨rfl, hb1⟩
      obtain ⟨t, ht⟩ : ∃ t : ByteArray, t = ⟨(decDigits u).toArray⟩ := ⟨_, rfl⟩
      rw [← ht]
      have hbt : bts t = decDigits u := by rw [ht]; rfl
      have htz : t.size ≤ 19 := by rw [ht]; exact h19
      have HLe := Lib.hid (less_any s t hs w1)
      rw [hbt, HLs.out] at HLe
      have HB1 := Lib.hid hb1
      clear hb1 hbt ht HLs HP HC
      by_cases hlt : val (bts s) < u
      · rw [decide_eq_true hlt] at HLe
        have HA := Lib.hid (ans_yes (s := s) (n := (u : Int)) HCn.out (by omega))
        go_wp2_with (go_at_call 14; refine HLe.out.mono ?_; rintro e w2 ⟨rfl, q, hw2⟩; have HW2 := Lib.hid hw2; clear hw2)
        go_loop [6, 7] (fun vv vk => ∃ k v : Nat, k ≤ s.size ∧ vv = .int .i64 (v : Int) ∧ vk = .int .i64 (k : Int) ∧ Hid (v = val ((bts s).take k))) (fun _ vk => s.size - (RowKit.intOf vk).toNat)
        case atStart => exact ⟨0, 0, by omega, rfl, rfl, rfl⟩
        case round =>
          obtain ⟨k, v, hk, rfl, rfl, HVv⟩ := hrel
          by_cases hlk : k < s.size
          · have hlkb : (k : Int) < (s.size : Int) := by omega
            have hix := idx_at s k (k : Int) rfl hlk
            have hd := HCn.out.2.1 _ (mem_at s k hlk)
            unfold IsD at hd
            have htv := take_val s k hlk
            have hle := val_take_le (bts s) (k + 1)
            rw [← HVv.out] at htv
            obtain ⟨c, hc⟩ : ∃ c : Nat, ((bts s).getD k 0).toNat = c := ⟨_, rfl⟩
            rw [hc] at hix hd htv
            rw [htv] at hle
            have HTv := Lib.hid htv
            obtain ⟨hd1, hd2⟩ := hd
            have hv1 : v * 10 + (c - 48) < 9223372036854775808 := by omega
            clear htv hc hle
            go_wp2
            go_round
            case rel =>
              refine ⟨k + 1, v * 10 + (c - 48), by omega, ?_, by go_num, HTv.out.symm⟩
              congr 1
              omega
            case measure => simp [RowKit.intOf]; omega
          · have hlkb : ¬ (k : Int) < (s.size : Int) := by omega
            have hvv := HVv.out
            rw [List.take_of_length_le (by rw [bts_length]; omega)] at hvv
            have HV2 := Lib.hid hvv
            clear hvv
            have hA := HA.out
            rw [← HV2.out] at hA
            have HA2 := Lib.hid hA
            clear hA
            go_wp2
            go_ret2
            exact ⟨(v : Int), true, rfl, HA2.out, by rw [HW2.out]; exact below_drewN HB1.out⟩
      · rw [decide_eq_false hlt] at HLe
        have HA := Lib.hid (ans_no (s := s) (n := (u : Int)) (fun e => by omega))
        go_wp2_with (go_at_call 14; refine HLe.out.mono ?_; rintro e w2 ⟨rfl, q, hw2⟩; have HW2 := Lib.hid hw2; clear hw2)
        go_ret2
        exact ⟨0, false, rfl, HA.out, by have h2 : w2 = w1.drewN q := by assumption
                                         rw [h2]; exact below_drewN HB1.out⟩
  · have HC := Lib.hid (fun w => (HCan.out w).mono (R' := fun e w' => e = .returned (.bool false) ∧ w' = w) (fun e w' h => ⟨by
      rcases h.1 with ⟨h1, _⟩ | ⟨_, h1⟩
      · exact absurd h1 hcan
      · exact h1, h.2⟩))
    have HA := Lib.hid (ans_no (s := s) (n := n) (fun e => hcan e.1))
    clear hcan HCan
    go_enter Tryd.func9, Tryd.ntmps9
    go_wp2_with (go_at_call 13; refine (HC.out _).mono ?_; rintro e w' ⟨rfl, rfl⟩)
    go_ret2
    exact ⟨0, false, rfl, HA.out, Below.refl _ _⟩
end Go.Proofs.Qxb6601128aDoor
