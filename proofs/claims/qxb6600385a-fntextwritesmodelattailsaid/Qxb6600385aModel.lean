/-
  THE WALK of modelText.
-/
import Derived.Test.Qxb6600385aString
import Derived.Test.Qxb6600385aModelPlain
namespace Go.Proofs.Qxb6600385a
open Go.RowKit Go.Sort Go.Lib

/-- The zero bytes of 'var ds [20]byte' and 'var out [48]byte'. -/
def zeros20 : Array UInt8 := Array.replicate 20 0
def cells20 : Array Value := #[.int .u8 0, .int .u8 0, .int .u8 0, .int .u8 0, .int .u8 0, .int .u8 0, .int .u8 0, .int .u8 0, .int .u8 0, .int .u8 0, .int .u8 0, .int .u8 0, .int .u8 0, .int .u8 0, .int .u8 0, .int .u8 0, .int .u8 0, .int .u8 0, .int .u8 0, .int .u8 0]
theorem cells20_eq : cells20 = zeros20.map enc := by
  apply Array.toList_inj.1
  rw [Array.toList_map, zeros20, Array.toList_replicate, List.map_replicate]
  rfl
def zeros48 : Array UInt8 := Array.replicate 48 0
def cells48 : Array Value := #[.int .u8 0, .int .u8 0, .int .u8 0, .int .u8 0, .int .u8 0, .int .u8 0, .int .u8 0, .int .u8 0, .int .u8 0, .int .u8 0, .int .u8 0, .int .u8 0, .int .u8 0, .int .u8 0, .int .u8 0, .int .u8 0, .int .u8 0, .int .u8 0, .int .u8 0, .int .u8 0, .int .u8 0, .int .u8 0, .int .u8 0, .int .u8 0, .int .u8 0, .int .u8 0, .int .u8 0, .int .u8 0, .int .u8 0, .int .u8 0, .int .u8 0, .int .u8 0, .int .u8 0, .int .u8 0, .int .u8 0, .int .u8 0, .int .u8 0, .int .u8 0, .int .u8 0, .int .u8 0, .int .u8 0, .int .u8 0, .int .u8 0, .int .u8 0, .int .u8 0, .int .u8 0, .int .u8 0, .int .u8 0]
theorem cells48_eq : cells48 = zeros48.map enc := by
  apply Array.toList_inj.1
  rw [Array.toList_map, zeros48, Array.toList_replicate, List.map_replicate]
  rfl
theorem holds_zero20 (w : World) (n : Nat) (hn : n = w.heap.size) : Holds enc (w.alloc (.cells cells20 45)) n 0 zeros20 := by
  rw [cells20_eq]
  exact holds_fresh w zeros20 45 n hn
/-- 'out' as the second loop finds it: behind a '-' where the sign is set. -/
def out0 : Bool → Array UInt8
  | true => zeros48.setIfInBounds 0 45
  | false => zeros48
def outCells : Bool → Array Value
  | true => #[.int .u8 45, .int .u8 0, .int .u8 0, .int .u8 0, .int .u8 0, .int .u8 0, .int .u8 0, .int .u8 0, .int .u8 0, .int .u8 0, .int .u8 0, .int .u8 0, .int .u8 0, .int .u8 0, .int .u8 0, .int .u8 0, .int .u8 0, .int .u8 0, .int .u8 0, .int .u8 0, .int .u8 0, .int .u8 0, .int .u8 0, .int .u8 0, .int .u8 0, .int .u8 0, .int .u8 0, .int .u8 0, .int .u8 0, .int .u8 0, .int .u8 0, .int .u8 0, .int .u8 0, .int .u8 0, .int .u8 0, .int .u8 0, .int .u8 0, .int .u8 0, .int .u8 0, .int .u8 0, .int .u8 0, .int .u8 0, .int .u8 0, .int .u8 0, .int .u8 0, .int .u8 0, .int .u8 0, .int .u8 0]
  | false => cells48
def acc0 : Bool → List UInt8
  | true => [45]
  | false => []
theorem outCells_eq (neg : Bool) : outCells neg = (out0 neg).map enc := by
  cases neg
  · exact cells48_eq
  · apply Array.toList_inj.1
    rw [Array.toList_map, out0, Array.toList_setIfInBounds, zeros48, Array.toList_replicate]
    rfl
theorem out0_size (neg : Bool) : (out0 neg).size = 48 := by
  cases neg <;> simp [out0, zeros48]
theorem out0_head (neg : Bool) : Head (out0 neg) (acc0 neg) := by
  cases neg
  · exact Head.start _ (out0_size false)
  · exact (Head.start zeros48 (out0_size false)).step (by simp) 45
theorem acc0_txt (c s : Nat) (neg : Bool) : acc0 neg ++ body c s = txt c s neg := by
  cases neg <;> rfl

/-- The world ahead of the second loop. -/
structure Start (w W2 : World) (c n : Nat) (neg : Bool) : Prop where
  z : W2.heap.size = w.heap.size + 2
  g : Grown w W2
  ds : ∀ t, t ≤ n → W2.cell? ⟨w.heap.size, t, none⟩ = some (.int .u8 ((dg c t).toNat : Int))
  out : Holds enc W2 (w.heap.size + 1) 0 (out0 neg)

theorem digit_store2 (v : Nat) : Value.int .u8 (48 + (v : Int) % 10) = enc (UInt8.ofNat (48 + v % 10)) := by
  unfold enc
  congr 1
  simp only [UInt8.toNat_ofNat']
  omega

theorem start_facts {w W1 wr W2 : World} {c n v : Nat} {dk : Array UInt8} (neg : Bool) (hW1 : W1 = w.alloc (.cells cells20 45)) (hwr : wr = putRow enc W1 w.heap.size 0 dk) (hH : Holds enc W1 w.heap.size 0 zeros20) (hsz : dk.size = 20) (hn : n < 20)
    (hD : ∀ t, t < n + 1 → (dk.setIfInBounds n (UInt8.ofNat (48 + v % 10)))[t]! = dg c t)
    (h : (wr.setCell ⟨w.heap.size, n, none⟩ (.int .u8 (48 + (v : Int) % 10))).alloc (.cells (outCells neg) 46) = W2) : Start w W2 c n neg := by
  have e1 : wr.setCell ⟨w.heap.size, n, none⟩ (.int .u8 (48 + (v : Int) % 10)) = putRow enc W1 w.heap.size 0 (dk.setIfInBounds n (UInt8.ofNat (48 + v % 10))) := by
    rw [digit_store2, hwr]
    exact store0 W1 _ dk n _ (by omega)
  rw [e1] at h
  have hz : (putRow enc W1 w.heap.size 0 (dk.setIfInBounds n (UInt8.ofNat (48 + v % 10)))).heap.size = w.heap.size + 1 := by rw [size_putRow, hW1]; simp
  subst h
  refine ⟨by simpa using hz, ?_, fun t ht => ?_, ?_⟩
  · exact (grown_putRow (by rw [hW1]; exact (Grown.refl w).alloc _ _) (Nat.le_refl _) 0 _).alloc _ _
  · rw [World.cell?_alloc_past _ _ _ (by omega), ← hD t (by omega)]
    exact row_cell (holds_putRow enc W1 w.heap.size 0 zeros20 _ hH (by rw [Array.size_setIfInBounds, hsz]; rfl)) t (by rw [Array.size_setIfInBounds, hsz]; omega)
  · rw [outCells_eq]
    exact holds_fresh _ _ 46 _ hz.symm

/-- 'out[:m]', out an array of 48 bytes. -/
theorem slice_head (b m : Nat) (hm : m ≤ 48) (w : World) :
    (Instr.sliceAt 46 (.pointer (some ⟨b, 0, none⟩)) none (some (.int .i64 (m : Int))) none).run Try.prog w = .ok (.slice (some ⟨b, 0, none⟩) m 48) w := by
  have hal : Try.prog.arrayLen 46 = 48 := by kernel_rfl
  have hel : Try.prog.elem 46 = 5 := by kernel_rfl
  have h5 : ∀ w, (sizeOf 5).run Try.prog w = .ok 1 w := fun w => by kernel_rfl
  have hu : Try.prog.underlying 46 = some (.array 48 5) := by kernel_rfl
  rw [run_sliceAt_array_h w 46 _ (by rw [hal, hel]; exact hu) .i64 _ (by omega) (by rw [hal]; omega), hal, hel, h5]
  simp only [Result.andThen, slicedAt, Int.toNat_natCast, Nat.mul_one]
  rw [if_neg (by omega), Addr.add_lit]
  rfl

/-- 'string(out[:m])'. -/
theorem conv_head (b m : Nat) (l : List UInt8) (dk : Array UInt8) (w : World) (hl : l.length = m) (hT : Head dk l) (hH : Holds enc w b 0 dk) :
    (convert 42 9 (.slice (some ⟨b, 0, none⟩) m 48)).run Try.prog w = .ok (.string ⟨l.toArray⟩) w := by
  have hsz := hT.size
  have hle := hT.le
  subst hl
  refine run_convert_bytes_back w 42 9 5 _ _ l Try.underlying42 Try.underlying5 Try.underlying9 (fun j hj => ?_)
  have hc := row_cell hH j (by omega)
  have hd := hT.bytes j hj
  rw [List.getElem?_eq_getElem hj] at hd
  have hd' : dk[j]! = l[j] := by rw [Array.getElem!_eq_getD, Array.getD_eq_getD_getElem?, hd]; rfl
  rw [hd'] at hc
  rw [Addr.add_lit, Nat.zero_add]
  exact hc

set_option maxHeartbeats 2000000 in
set_option maxRecDepth 100000 in
theorem model_any (c s : Nat) (neg : Bool) (w : World) (hc : c < 18446744073709551616) (hs : s ≤ 19) :
    Calls Try.prog 17 #[.int .u64 (c : Int), .int .u8 (s : Int), .bool neg] w fun e w' =>
      e = .returned (.string ⟨(txt c s neg).toArray⟩) ∧ Grown w w' := by
  obtain ⟨W1, hW1⟩ : ∃ W1, W1 = w.alloc (.cells cells20 45) := ⟨_, rfl⟩
  have hH1 : Holds enc W1 w.heap.size 0 zeros20 := by rw [hW1]; exact holds_zero20 w _ rfl
  have hz1 : W1.heap.size = w.heap.size + 1 := by rw [hW1]; simp
  have AH := Lib.hid hH1
  have HW1 := Lib.hid hW1
  clear hH1 hW1
  go_enter Try.func17, Try.ntmps17
  go_wp2
  rw [show w.alloc (.cells #[.int .u8 0, .int .u8 0, .int .u8 0, .int .u8 0, .int .u8 0, .int .u8 0, .int .u8 0, .int .u8 0, .int .u8 0, .int .u8 0, .int .u8 0, .int .u8 0, .int .u8 0, .int .u8 0, .int .u8 0, .int .u8 0, .int .u8 0, .int .u8 0, .int .u8 0, .int .u8 0] 45) = W1 from HW1.out.symm]
  go_loopw [8, 9] (fun vn vc wr => ∃ (n v : Nat) (dk : Array UInt8), vn = .int .i64 (n : Int) ∧ vc = .int .u64 (v : Int) ∧ wr = putRow enc W1 w.heap.size 0 dk ∧ Hid (Digs c n v dk)) (fun _ vc _ => (RowKit.intOf vc).toNat)
  case atStart => exact ⟨0, c, zeros20, rfl, rfl, (putRow_self _ _ _ _ _ AH.out).symm, ⟨rfl, by simp, .inl rfl, fun t ht => by omega⟩⟩
  case round =>
    obtain ⟨n, v, dk, rfl, rfl, hwr, HD⟩ := hrel
    have hn20 := HD.out.lt hc
    have hsz := HD.out.size
    have hv64 : v < 18446744073709551616 := by have := HD.out.rest; have := Nat.div_le_self c (10 ^ n); omega
    have hHr : Holds enc wr w.heap.size 0 dk := by rw [hwr]; exact holds_putRow _ _ _ _ _ _ AH.out hsz
    have hzr : wr.heap.size = w.heap.size + 1 := by rw [hwr]; simpa using hz1
    obtain ⟨g0, hg0⟩ : ∃ g : Int, wr.cell? ⟨w.heap.size, n, none⟩ = some (.int .u8 g) := ⟨_, row_cell hHr n (by omega)⟩
    have hf0 := row_free hHr n (by omega)
    have AWr := Lib.hid hwr
    clear hwr hHr
    by_cases hv : v / 10 = 0
    · have hvb : ((v : Int) / 10 == 0) = true := by simp; omega
      have hL := HD.out.last hv
      have hds := HD.out.store hn20
      have HS := Lib.hid (show ∀ t, t < n + 1 → _ from hds)
      clear hds
      obtain ⟨Wd, hWd⟩ : ∃ Wd, Wd = if 0 < s ∧ n + 1 < s + 1 then s + 1 else n + 1 := ⟨_, rfl⟩
      have HR := Lib.hid (rest_body c s (n + 1) Wd (by omega) hL.1 hL.2 hWd)
      rcases (show (¬ 0 < s) ∨ (0 < s ∧ n < s) ∨ (0 < s ∧ ¬ n < s) by omega) with hw | hw | hw
      case' inl =>
        rw [if_neg (by omega)] at hWd
        have q1 : ¬ (0 : Int) < (s : Int) := by omega
        have q2 : True := trivial
      case' inr.inl =>
        rw [if_pos (by omega)] at hWd
        have q1 : (0 : Int) < (s : Int) := by omega
        have q2 : (n : Int) + 1 < (s : Int) + 1 := by omega
      case' inr.inr =>
        rw [if_neg (by omega)] at hWd
        have q1 : (0 : Int) < (s : Int) := by omega
        have q2 : ¬ (n : Int) + 1 < (s : Int) + 1 := by omega
      all_goals
        clear hw
        have HWd := Lib.hid hWd
        clear hWd
        cases hneg : neg
      all_goals
        go_wp2
        go_name_world W2 hW2
        have HX := Lib.hid (start_facts (W2 := W2) neg HW1.out AWr.out AH.out hsz hn20 HS.out (by rw [hneg]; exact hW2))
        clear hW2
        go_loopw [13, 14] (fun vm vk wr => ∃ (K : Int) (k m : Nat) (dk2 : Array UInt8) (acc : List UInt8), vm = .int .i64 (m : Int) ∧ vk = .int .i64 K ∧ wr = putRow enc W2 (w.heap.size + 1) 0 dk2 ∧ Hid (K + 1 = (k : Int)) ∧ Hid (acc.length = m) ∧ Hid (acc ++ rest c s k = txt c s neg) ∧ Hid (Head dk2 acc)) (fun _ vk _ => (RowKit.intOf vk + 1).toNat)
        case atStart =>
          refine ⟨_, Wd, (acc0 neg).length, out0 neg, acc0 neg, by rw [hneg]; rfl, rfl, (putRow_self _ _ _ _ _ HX.out.out).symm, ?_, rfl, ?_, out0_head neg⟩
          · have := HWd.out; show _ = _; omega
          · show _ = _; rw [HR.out]; exact acc0_txt c s neg
        case round =>
          clear HD hsz hv64 hzr hg0 hf0 AWr hv hvb HS HR HWd q2 hneg
          obtain ⟨K, k, m, dk2, acc, rfl, rfl, hwr, HK, HM, HA, HH⟩ := hrel
          have hsz := HH.out.size
          have hHr : Holds enc wr (w.heap.size + 1) 0 dk2 := by rw [hwr]; exact holds_putRow _ _ _ _ _ _ HX.out.out (by rw [hsz, out0_size])
          have hzr : wr.heap.size = w.heap.size + 2 := by rw [hwr, size_putRow]; exact HX.out.z
          have AWr := Lib.hid hwr
          clear hwr
          have hk := HK.out
          have hA := HA.out
          have hAl := congrArg List.length hA
          rw [List.length_append, HM.out] at hAl
          have htl := txt_len c s neg hc hs
          by_cases hK : K < 0
          · obtain rfl : k = 0 := by omega
            have hacc : acc = txt c s neg := by simpa [rest] using hA
            subst hacc
            have hm48 : m ≤ 48 := by have := HM.out; omega
            have hsl := slice_head (w.heap.size + 1) m hm48 wr
            have hcv := conv_head (w.heap.size + 1) m _ dk2 wr HM.out HH.out hHr
            have HG := Lib.hid (show Grown w wr by rw [AWr.out]; exact grown_putRow HX.out.g (by omega) 0 dk2)
            clear hA hHr hAl htl hk
            go_wp2
            go_ret
            exact ⟨rfl, HG.out⟩
          · obtain ⟨j, rfl⟩ : ∃ j : Nat, K = (j : Int) := ⟨K.toNat, by omega⟩
            obtain rfl : k = j + 1 := by omega
            have hr1 := rest_len c s (j + 1)
            have hm22 : m < 22 := by omega
            have hj22 : j < 22 := by omega
            clear hAl htl hr1 hk
            by_cases hdot : 0 < s ∧ j + 1 = s
            · (try (exfalso; omega))
              all_goals
                by_cases hj : j ≤ n
                · have hzm : m + 1 < 48 := by omega
                  obtain ⟨g1, hg1⟩ : ∃ g : Int, wr.cell? ⟨w.heap.size + 1, m, none⟩ = some (.int .u8 g) := ⟨_, row_cell hHr m (by omega)⟩
                  obtain ⟨g2, hg2⟩ : ∃ g : Int, wr.cell? ⟨w.heap.size + 1, m + 1, none⟩ = some (.int .u8 g) := ⟨_, row_cell hHr (m + 1) (by omega)⟩
                  have hf1 := row_free hHr m (by omega)
                  have hf2 := row_free hHr (m + 1) (by omega)
                  have hdb : ((j : Int) == (s : Int) - 1) = true := by simp; omega
                  rw [rest_dot c s j hdot] at hA
                  have hcd : wr.cell? ⟨w.heap.size, j, none⟩ = some (.int .u8 ((dg c j).toNat : Int)) := by rw [AWr.out]; exact (cell?_putRow_other enc W2 _ 0 dk2 _ (.inl (by simp))).trans (HX.out.ds j (by omega))
                  have hjn : (j : Int) < (n : Int) + 1 := by omega
                  have HA' := Lib.hid hA
                  clear hA hHr
                  go_wp2
                  go_roundw
                  case rel =>
                    refine ⟨_, j, m + 2, (dk2.setIfInBounds m 46).setIfInBounds (m + 1) (dg c j), acc ++ [46] ++ [dg c j], by go_num, rfl, ?_, by show _ = _; omega, by show _ = _; rw [List.length_append, List.length_append, HM.out]; rfl, by show _ = _; rw [← HA'.out]; simp, ?_⟩
                    · rw [AWr.out]
                      exact (congrArg (fun x => World.setCell x ⟨w.heap.size + 1, m + 1, none⟩ (enc (dg c j))) (store0 W2 _ dk2 m 46 (by omega))).trans (store0 W2 _ (dk2.setIfInBounds m 46) (m + 1) _ (by rw [Array.size_setIfInBounds]; omega))
                    · have hh := (HH.out.step (by rw [HM.out]; omega) 46).step (by rw [List.length_append, HM.out]; simp; omega) (dg c j)
                      rw [List.length_append, HM.out] at hh
                      exact hh
                  case measure => simp [RowKit.intOf] <;> omega
                · have hzm : m + 1 < 48 := by omega
                  obtain ⟨g1, hg1⟩ : ∃ g : Int, wr.cell? ⟨w.heap.size + 1, m, none⟩ = some (.int .u8 g) := ⟨_, row_cell hHr m (by omega)⟩
                  obtain ⟨g2, hg2⟩ : ∃ g : Int, wr.cell? ⟨w.heap.size + 1, m + 1, none⟩ = some (.int .u8 g) := ⟨_, row_cell hHr (m + 1) (by omega)⟩
                  have hf1 := row_free hHr m (by omega)
                  have hf2 := row_free hHr (m + 1) (by omega)
                  have hdb : ((j : Int) == (s : Int) - 1) = true := by simp; omega
                  rw [rest_dot c s j hdot] at hA
                  have hjn : ¬ (j : Int) < (n : Int) + 1 := by omega
                  rw [dg_high c (n + 1) j hL.1 (by omega)] at hA
                  have HA' := Lib.hid hA
                  clear hA hHr
                  go_wp2
                  go_roundw
                  case rel =>
                    refine ⟨_, j, m + 2, (dk2.setIfInBounds m 46).setIfInBounds (m + 1) (48), acc ++ [46] ++ [48], by go_num, rfl, ?_, by show _ = _; omega, by show _ = _; rw [List.length_append, List.length_append, HM.out]; rfl, by show _ = _; rw [← HA'.out]; simp, ?_⟩
                    · rw [AWr.out]
                      exact (congrArg (fun x => World.setCell x ⟨w.heap.size + 1, m + 1, none⟩ (enc (48))) (store0 W2 _ dk2 m 46 (by omega))).trans (store0 W2 _ (dk2.setIfInBounds m 46) (m + 1) _ (by rw [Array.size_setIfInBounds]; omega))
                    · have hh := (HH.out.step (by rw [HM.out]; omega) 46).step (by rw [List.length_append, HM.out]; simp; omega) (48)
                      rw [List.length_append, HM.out] at hh
                      exact hh
                  case measure => simp [RowKit.intOf] <;> omega
            · by_cases hj : j ≤ n
              · have hzm : m + 1 < 48 := by omega
                obtain ⟨g1, hg1⟩ : ∃ g : Int, wr.cell? ⟨w.heap.size + 1, m, none⟩ = some (.int .u8 g) := ⟨_, row_cell hHr m (by omega)⟩
                have hf1 := row_free hHr m (by omega)
                have hdb : ((j : Int) == (s : Int) - 1) = false := by simp; omega
                rw [rest_nodot c s j hdot] at hA
                have hcd : wr.cell? ⟨w.heap.size, j, none⟩ = some (.int .u8 ((dg c j).toNat : Int)) := by rw [AWr.out]; exact (cell?_putRow_other enc W2 _ 0 dk2 _ (.inl (by simp))).trans (HX.out.ds j (by omega))
                have hjn : (j : Int) < (n : Int) + 1 := by omega
                have HA' := Lib.hid hA
                clear hA hHr
                go_wp2
                go_roundw
                case rel =>
                  refine ⟨_, j, m + 1, dk2.setIfInBounds m (dg c j), acc ++ [dg c j], by go_num, rfl, ?_, by show _ = _; omega, by show _ = _; rw [List.length_append, HM.out]; rfl, by show _ = _; rw [← HA'.out]; simp, ?_⟩
                  · rw [AWr.out]
                    exact store0 W2 _ dk2 m _ (by omega)
                  · have hh := HH.out.step (by rw [HM.out]; omega) (dg c j)
                    rw [HM.out] at hh
                    exact hh
                case measure => simp [RowKit.intOf] <;> omega
              · have hzm : m + 1 < 48 := by omega
                obtain ⟨g1, hg1⟩ : ∃ g : Int, wr.cell? ⟨w.heap.size + 1, m, none⟩ = some (.int .u8 g) := ⟨_, row_cell hHr m (by omega)⟩
                have hf1 := row_free hHr m (by omega)
                have hdb : ((j : Int) == (s : Int) - 1) = false := by simp; omega
                rw [rest_nodot c s j hdot] at hA
                have hjn : ¬ (j : Int) < (n : Int) + 1 := by omega
                rw [dg_high c (n + 1) j hL.1 (by omega)] at hA
                have HA' := Lib.hid hA
                clear hA hHr
                go_wp2
                go_roundw
                case rel =>
                  refine ⟨_, j, m + 1, dk2.setIfInBounds m (48), acc ++ [48], by go_num, rfl, ?_, by show _ = _; omega, by show _ = _; rw [List.length_append, HM.out]; rfl, by show _ = _; rw [← HA'.out]; simp, ?_⟩
                  · rw [AWr.out]
                    exact store0 W2 _ dk2 m 48 (by omega)
                  · have hh := HH.out.step (by rw [HM.out]; omega) (48)
                    rw [HM.out] at hh
                    exact hh
                case measure => simp [RowKit.intOf] <;> omega
    · have hvb : ((v : Int) / 10 == 0) = false := by simp; omega
      go_wp2
      go_roundw
      case rel =>
        exact ⟨n + 1, v / 10, _, by go_num, by go_num, by rw [digit_store2 v, AWr.out]; exact store0 W1 _ dk n _ (by omega), HD.out.next hn20 hv⟩
      case measure => simp [RowKit.intOf]; omega
end Go.Proofs.Qxb6600385a
