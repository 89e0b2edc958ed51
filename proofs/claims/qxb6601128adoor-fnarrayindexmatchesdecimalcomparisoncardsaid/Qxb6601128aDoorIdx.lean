/-
  THE WALK of rules.arrayIndex, over the shelf's contracts on strconv.Atoi.
-/
import Derived.Test.Qxb6601128aDoorDec
import Derived.Test.Qxb6601128aDoorShelf
import Derived.Lib.ConvBytes
import Derived.Lib.Strings
namespace Go.Proofs.Qxb6601128aDoor
open Go.RowKit Go.Lib

/-- The bytes of a string. -/
def bts (s : ByteArray) : List UInt8 := s.data.toList
theorem bts_length (s : ByteArray) : (bts s).length = s.size := rfl

/-- 's[i]', the index in whatever spelling. -/
theorem idx_at (s : ByteArray) (i : Nat) (z : Int) (hz : z = (i : Int)) (hi : i < s.size) (w : World) :
    (Instr.index 9 (.string s) (.int .i64 z)).run Tryd.prog w = .ok (.int .u8 (((bts s).getD i 0).toNat : Int)) w := by
  subst hz
  rw [run_index_string w 9 s .i64 _ Tryd.underlying9, dif_pos ⟨by omega, by omega⟩]
  congr 4
  have hl : i < (bts s).length := by rw [bts_length]; exact hi
  rw [List.getD_eq_getElem?_getD, List.getElem?_eq_getElem hl]
  simp only [Option.getD_some, bts, Int.toNat_natCast]
  rfl

theorem mem_at (s : ByteArray) (i : Nat) (hi : i < s.size) : (bts s).getD i 0 ∈ bts s := by
  have hl : i < (bts s).length := by rw [bts_length]; exact hi
  rw [List.getD_eq_getElem?_getD, List.getElem?_eq_getElem hl]
  exact List.getElem_mem hl
theorem all_of (s : ByteArray) (h : ∀ i, i < s.size → IsD ((bts s).getD i 0)) : ∀ b ∈ bts s, IsD b := by
  intro b hb
  obtain ⟨i, hi, rfl⟩ := List.getElem_of_mem hb
  have h' := h i (by rw [← bts_length]; exact hi)
  rw [List.getD_eq_getElem?_getD, List.getElem?_eq_getElem hi] at h'
  exact h'

/-- What arrayIndex answers. -/
def Ans (s : ByteArray) (n v : Int) (b : Bool) : Prop :=
  ((Canon (bts s) ∧ (val (bts s) : Int) < n) ∧ v = (val (bts s) : Int) ∧ b = true) ∨ (¬ (Canon (bts s) ∧ (val (bts s) : Int) < n) ∧ v = 0 ∧ b = false)

theorem ans_no {s : ByteArray} {n : Int} (h : ¬ (Canon (bts s) ∧ (val (bts s) : Int) < n)) : Ans s n 0 false := .inr ⟨h, rfl, rfl⟩
theorem ans_yes {s : ByteArray} {n : Int} (h : Canon (bts s)) (h' : (val (bts s) : Int) < n) : Ans s n (val (bts s) : Int) true := .inl ⟨⟨h, h'⟩, rfl, rfl⟩

theorem atoi_below {W1 w2 : World} (h : w2 = W1 ∨ ∃ t, w2 = Lib.bytesWorld W1 5 t) : Below W1.heap.size W1 w2 := by
  rcases h with rfl | ⟨t, rfl⟩
  · exact Below.refl _ _
  · exact Lib.bytesWorld_below _ _ _

/-- How a call of arrayIndex ends. -/
def ArrOut (s : ByteArray) (n : Int) (w : World) (e : Ending) (w' : World) : Prop := ∃ v b, e = .returned (.tuple #[.int .i64 v, .bool b]) ∧ Ans s n v b ∧ Below w.heap.size w w'

set_option maxHeartbeats 2000000 in
set_option maxRecDepth 100000 in
theorem arr_any (s : ByteArray) (n : Int) (ev : Value) (w : World) (hs : s.size ≤ 1048576) (hn1 : -9223372036854775808 ≤ n) (hn2 : n ≤ 9223372036854775807) (hv : w.cell? ⟨1, 0, none⟩ = some ev) (hev : ev = .nilIface ∨ ∃ te pe, ev = .iface te pe) :
    Calls Tryd.prog 11 #[.string s, .int .i64 n] w fun e w' => ArrOut s n w e w' := by
  have HEv := Lib.hid hev
  have HV := Lib.hid hv
  clear hev hv
  by_cases h0 : s.size = 0
  · have he : s.toList.isEmpty = true := by rw [Lib.toList_data]; simp; exact Array.size_eq_zero_iff.1 h0
    have HA := Lib.hid (ans_no (s := s) (n := n) (fun e => e.1.1 (List.length_eq_zero_iff.1 (by rw [bts_length]; exact h0))))
    clear h0
    go_enter Tryd.func11, Tryd.ntmps11
    go_wp2
    go_ret2
    exact ⟨0, false, rfl, HA.out, Below.refl _ _⟩
  have he : s.toList.isEmpty = false := by
    rw [Lib.toList_data]
    cases hx : s.data.toList with
    | nil => exact absurd (show s.size = 0 by rw [← bts_length]; unfold bts; rw [hx]; rfl) h0
    | cons a r => rfl
  have hix := idx_at s 0 0 rfl (by omega)
  by_cases hz : 1 < s.size ∧ (bts s).getD 0 0 = 48
  · obtain ⟨hz1, hz2⟩ := hz
    have hz1b : (1 : Int) < (s.size : Int) := by omega
    have HA := Lib.hid (ans_no (s := s) (n := n) (fun e => by
      rcases e.1.2.2 with h | h
      · rw [bts_length] at h; omega
      · apply h
        rw [List.getElem?_eq_getElem (by rw [bts_length]; omega)]
        rw [List.getD_eq_getElem?_getD, List.getElem?_eq_getElem (by rw [bts_length]; omega)] at hz2
        exact congrArg some hz2))
    rw [hz2] at hix
    have hix' : ∀ w, (Instr.index 9 (.string s) (.int .i64 0)).run Tryd.prog w = .ok (.int .u8 48) w := hix
    clear hix hz2
    go_enter Tryd.func11, Tryd.ntmps11
    go_wp2
    go_ret2
    exact ⟨0, false, rfl, HA.out, Below.refl _ _⟩
  obtain ⟨cap, W1, hcv, hc1, hB1⟩ : ∃ cap W1, (convert 9 30 (.string s)).run Tryd.prog w = .ok (.slice (some ⟨w.heap.size, 0, none⟩) s.size cap) W1 ∧ (∀ j, j < s.size → W1.cell? ⟨w.heap.size, j, none⟩ = some (.int .u8 (((bts s).getD j 0).toNat : Int))) ∧ Below w.heap.size w W1 :=
    ⟨_, _, Lib.run_convert_string_bytes w 9 30 5 s Tryd.underlying9 Tryd.underlying30 Tryd.underlying5, fun j hj => Lib.bytesWorld_cell w 5 s j hj, Lib.bytesWorld_below w 5 s⟩
  have HC1 := Lib.hid hc1
  have HB1 := Lib.hid hB1
  have hG : (1 : Nat) < w.heap.size := Lib.lt_of_cell HV.out
  have HV1 := Lib.hid (show W1.cell? ⟨1, 0, none⟩ = some ev from (hB1.cell (p := ⟨1, 0, none⟩) hG).trans HV.out)
  clear hc1 hB1
  have HZ := Lib.hid hz
  rcases (show s.size ≤ 1 ∨ (1 < s.size ∧ (bts s).getD 0 0 ≠ 48) by
    by_cases h1 : 1 < s.size
    · exact .inr ⟨h1, fun e => hz ⟨h1, e⟩⟩
    · exact .inl (by omega)) with hw | hw
  case' inl =>
    have hwb : ¬ (1 : Int) < (s.size : Int) := by omega
    clear hix hw
  case' inr =>
    have hwb : (1 : Int) < (s.size : Int) := by omega
    have hne : ((((bts s).getD 0 0).toNat : Int) == 48) = false := by
      rw [beq_eq_false_iff_ne]
      intro e
      exact hw.2 (UInt8.toNat_inj.1 (by have : (48 : UInt8).toNat = 48 := rfl; omega))
    obtain ⟨c0, hc0⟩ : ∃ c0 : Int, (((bts s).getD 0 0).toNat : Int) = c0 := ⟨_, rfl⟩
    rw [hc0] at hix hne
    clear hw hc0
  all_goals
    clear hz
    go_enter Tryd.func11, Tryd.ntmps11
    go_wp2
    go_loop [25] (fun vk => ∃ k : Nat, k ≤ s.size ∧ vk = .int .i64 (k : Int) ∧ Hid (∀ t, t < k → IsD ((bts s).getD t 0))) (fun vk => s.size - (RowKit.intOf vk).toNat)
    case atStart => exact ⟨0, by omega, rfl, fun t ht => by omega⟩
    case round =>
      obtain ⟨k, hk, rfl, HD⟩ := hrel
      by_cases hlt : k < s.size
      · have hltb : (k : Int) < (s.size : Int) := by omega
        have hcell := HC1.out k hlt
        have hmem := mem_at s k hlt
        obtain ⟨c, hc⟩ : ∃ c, (bts s).getD k 0 = c := ⟨_, rfl⟩
        rw [hc] at hcell hmem
        have HCk := Lib.hid hc
        have HMem := Lib.hid hmem
        clear hc hmem
        obtain ⟨cn, hcn⟩ : ∃ cn : Nat, c.toNat = cn := ⟨_, rfl⟩
        rw [hcn] at hcell
        have HCN := Lib.hid hcn
        clear hcn
        by_cases h48 : (cn : Int) < 48
        · have HA := Lib.hid (ans_no (s := s) (n := n) (fun e => by have h := e.1.2.1 c HMem.out; unfold IsD at h; rw [HCN.out] at h; omega))
          go_wp2
          go_ret2
          exact ⟨0, false, rfl, HA.out, HB1.out⟩
        · by_cases h57 : 57 < (cn : Int)
          · have HA := Lib.hid (ans_no (s := s) (n := n) (fun e => by have h := e.1.2.1 c HMem.out; unfold IsD at h; rw [HCN.out] at h; omega))
            go_wp2
            go_ret2
            exact ⟨0, false, rfl, HA.out, HB1.out⟩
          · go_wp2
            go_round
            case rel =>
              refine ⟨k + 1, by omega, by go_num, fun t ht => ?_⟩
              by_cases e : t = k
              · subst e
                rw [HCk.out]
                unfold IsD
                rw [HCN.out]
                omega
              · exact HD.out t (by omega)
            case measure => simp [RowKit.intOf]; omega
      · have hltb : ¬ (k : Int) < (s.size : Int) := by omega
        have hall := all_of s (fun i hi => HD.out i (by omega))
        have hcan : Canon (bts s) := by
          refine ⟨fun e => h0 (by rw [← bts_length, e]; rfl), hall, ?_⟩
          by_cases h1 : s.size ≤ 1
          · left; rw [bts_length]; omega
          · right
            intro e
            apply HZ.out
            refine ⟨by omega, ?_⟩
            rw [List.getD_eq_getElem?_getD, e]
            rfl
        have hat := atoi_digits (bts s) hcan.1 hall
        by_cases hval : val (bts s) < 9223372036854775808
        · rw [if_pos hval] at hat
          have HAt := Lib.hid (fun W => Tryd.strconv_Atoi_ok s (by omega) _ hat W)
          by_cases hvn : n ≤ (val (bts s) : Int)
          · have HA := Lib.hid (ans_no (s := s) (n := n) (fun e => by omega))
            obtain ⟨vv, hvv⟩ : ∃ vv, val (bts s) = vv := ⟨_, rfl⟩
            rw [hvv] at HAt hvn hval
            clear hat hvv hall hcan
            go_wp2_with (go_at_call 15; refine (HAt.out _).mono ?_; rintro e w2 ⟨rfl, hw2⟩; have HW2 := Lib.hid hw2; clear hw2)
            go_ret2
            refine ⟨0, false, rfl, HA.out, HB1.out.trans ?_⟩
            have h2 : w2 = W1 ∨ ∃ t, w2 = Lib.bytesWorld W1 5 t := by assumption
            exact (atoi_below h2).mono HB1.out.size
          · have HA := Lib.hid (ans_yes hcan (by omega : (val (bts s) : Int) < n))
            obtain ⟨vv, hvv⟩ : ∃ vv, val (bts s) = vv := ⟨_, rfl⟩
            rw [hvv] at HAt hvn hval HA
            clear hat hvv hall hcan
            go_wp2_with (go_at_call 15; refine (HAt.out _).mono ?_; rintro e w2 ⟨rfl, hw2⟩; have HW2 := Lib.hid hw2; clear hw2)
            go_ret2
            refine ⟨(vv : Int), true, rfl, HA.out, HB1.out.trans ?_⟩
            have h2 : w2 = W1 ∨ ∃ t, w2 = Lib.bytesWorld W1 5 t := by assumption
            exact (atoi_below h2).mono HB1.out.size
        · rw [if_neg hval] at hat
          have HA := Lib.hid (ans_no (s := s) (n := n) (fun e => by omega))
          have HAt := Lib.hid (Tryd.strconv_Atoi_range s (by omega) hat ev W1 HV1.out HEv.out)
          clear hat hall hcan
          go_wp2_with (go_at_call 15; refine HAt.out.mono ?_; rintro e w2 ⟨N, rfl, _, _, hb2⟩; have HB2 := Lib.hid hb2; clear hb2)
          go_ret2
          refine ⟨0, false, rfl, HA.out, HB1.out.trans ?_⟩
          have h2 : Below W1.heap.size W1 w2 := by assumption
          exact h2.mono HB1.out.size
end Go.Proofs.Qxb6601128aDoor
