/-
  THE WALK of FnArrayIndexReadsItsOwnDecimal.
-/
import Derived.Test.Qxb6601128aDoorIdx
namespace Go.Proofs.Qxb6601128aDoor
open Go.RowKit Go.Lib

theorem zzarr_any (s : ByteArray) (n : Int) (ev : Value) (w : World) (hs : s.size ≤ 1048576) (hn1 : -9223372036854775808 ≤ n) (hn2 : n ≤ 9223372036854775807) (hv : w.cell? ⟨1, 0, none⟩ = some ev) (hev : ev = .nilIface ∨ ∃ te pe, ev = .iface te pe) :
    Calls Tryd.prog 6 #[.string s, .int .i64 n] w fun e w' => ArrOut s n w e w' := by
  have HA := Lib.hid (arr_any s n ev w hs hn1 hn2 hv hev)
  clear hv hev
  go_enter Tryd.func6, Tryd.ntmps6
  go_wp2_with fail
  refine HA.out.mono ?_
  rintro e w1 ⟨v, b, rfl, ha, hb⟩
  have HAn := Lib.hid ha
  have HB := Lib.hid hb
  clear ha hb
  go_wp2
  go_ret2
  exact ⟨v, b, rfl, HAn.out, HB.out⟩

set_option maxHeartbeats 1000000 in
theorem own_walk (i n : Int) (ev : Value) (w : World) (hi2 : i ≤ 9223372036854775807) (hn1 : -9223372036854775808 ≤ n) (hn2 : n ≤ 9223372036854775807) (hv : w.cell? ⟨1, 0, none⟩ = some ev) (hev : ev = .nilIface ∨ ∃ te pe, ev = .iface te pe) :
    Calls Tryd.prog 3 #[.int .i64 i, .int .i64 n] w fun e w' => e = .returned (.bool true) ∧ Below w.heap.size w w' := by
  by_cases h0 : i < 0
  · clear hv hev
    go_enter Tryd.func3, Tryd.ntmps3
    go_wp2
    go_ret
    exact ⟨rfl, Below.refl _ _⟩
  obtain ⟨u, rfl⟩ : ∃ u : Nat, i = (u : Int) := ⟨i.toNat, by omega⟩
  have hG : (1 : Nat) < w.heap.size := Lib.lt_of_cell hv
  have HD := Lib.hid (decOf_any u (by omega) w)
  have HV := Lib.hid hv
  have HEv := Lib.hid hev
  clear hv hev
  go_enter Tryd.func3, Tryd.ntmps3
  go_wp2_with fail
  refine HD.out.mono ?_
  rintro e w1 ⟨rfl, hb1⟩
  obtain ⟨s, hs⟩ : ∃ s : ByteArray, s = ⟨(decDigits u).toArray⟩ := ⟨_, rfl⟩
  rw [← hs]
  have hsz : s.size ≤ 19 := by
    rw [hs]
    have := dec_len19 u (by omega)
    exact this
  have hbt : bts s = decDigits u := by rw [hs]; rfl
  have hcan := canon_dec u
  rw [← hbt] at hcan
  have hval : val (bts s) = u := by rw [hbt]; exact val_dec u
  have HZ := Lib.hid (zzarr_any s n ev w1 (by omega) hn1 hn2 ((hb1.cell (p := ⟨1, 0, none⟩) hG).trans HV.out) HEv.out)
  have HB1 := Lib.hid hb1
  have HCan := Lib.hid hcan
  have HVal := Lib.hid hval
  clear hb1 hcan hval hbt hs HD
  go_wp2_with fail
  refine HZ.out.mono ?_
  rintro e w2 ⟨v, b, rfl, ha, hb2⟩
  have HB2 := Lib.hid (HB1.out.trans (hb2.mono HB1.out.size))
  clear hb2
  unfold Ans at ha
  rw [HVal.out] at ha
  by_cases hlt : (u : Int) < n
  · rcases ha with ⟨_, rfl, rfl⟩ | ⟨h, _, _⟩
    · go_wp2
      go_ret
      exact ⟨rfl, HB2.out⟩
    · exact absurd ⟨HCan.out, hlt⟩ h
  · rcases ha with ⟨⟨_, h⟩, _, _⟩ | ⟨_, rfl, rfl⟩
    · exact absurd h hlt
    · go_wp2
      go_ret
      exact ⟨rfl, HB2.out⟩
end Go.Proofs.Qxb6601128aDoor
