/-
  THE WALK of FnArrayIndexMatchesDecimalComparison.
-/
import Derived.Test.Qxb6601128aDoorModel
import Derived.Test.Qxb6601128aDoorOwn
namespace Go.Proofs.Qxb6601128aDoor
open Go.RowKit Go.Lib

theorem ans_same {s : ByteArray} {n v v' : Int} {b b' : Bool} (h : Ans s n v b) (h' : Ans s n v' b') : v = v' ∧ b = b' := by
  rcases h with ⟨h1, rfl, rfl⟩ | ⟨h1, rfl, rfl⟩ <;> rcases h' with ⟨k1, rfl, rfl⟩ | ⟨k1, rfl, rfl⟩
  · exact ⟨rfl, rfl⟩
  · exact absurd h1 k1
  · exact absurd k1 h1
  · exact ⟨rfl, rfl⟩

set_option maxHeartbeats 1000000 in
theorem cmp_walk (s : ByteArray) (n : Int) (ev : Value) (w : World) (hs : s.size ≤ maxLen) (hn1 : -9223372036854775808 ≤ n) (hn2 : n ≤ 9223372036854775807) (hv : w.cell? ⟨1, 0, none⟩ = some ev) (hev : ev = .nilIface ∨ ∃ te pe, ev = .iface te pe) :
    Calls Tryd.prog 4 #[.string s, .int .i64 n] w fun e w' => e = .returned (.bool true) ∧ Below w.heap.size w w' := by
  unfold maxLen at hs
  by_cases h20 : 1048576 < s.size
  · have h20b : (1048576 : Int) < (s.size : Int) := by omega
    clear hv hev
    go_enter Tryd.func4, Tryd.ntmps4
    go_wp2
    go_ret
    exact ⟨rfl, Below.refl _ _⟩
  have h20b : ¬ (1048576 : Int) < (s.size : Int) := by omega
  have HZ := Lib.hid (zzarr_any s n ev w (by omega) hn1 hn2 hv hev)
  have HM := Lib.hid (fun w => model_any s n w (by omega) hn1 hn2)
  clear hv hev
  go_enter Tryd.func4, Tryd.ntmps4
  go_wp2_with (first | (go_at_call 6; refine HZ.out.mono ?_; rintro e w1 ⟨v, b, rfl, ha, hb1⟩; have HAn := Lib.hid ha; have HB1 := Lib.hid hb1; clear ha hb1) | (go_at_call 9; refine (HM.out _).mono ?_; rintro e w2 ⟨v', b', rfl, ha, hb2⟩; have HAn' := Lib.hid ha; have HB2 := Lib.hid hb2; obtain ⟨rfl, rfl⟩ := ans_same HAn.out ha; clear ha hb2) | go_in)
  go_ret
  have h1 : Below w.heap.size w w1 := by assumption
  have h2 : Below w1.heap.size w1 w2 := by assumption
  exact ⟨rfl, h1.trans (h2.mono h1.size)⟩
end Go.Proofs.Qxb6601128aDoor
