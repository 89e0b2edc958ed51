/-
  THE WALKS of fivesIn, zzBytes, cloneU64, decimalsOf, tensOf.
-/
import Derived.Test.Qxb6600385aRows
import Derived.Test.Qxb6600385aFives
import Derived.WalkKit
import Derived.ProofKit
import Derived.Lib.Hide
import Derived.WalkSpells
import Derived.Deep.OwnRows
namespace Go.Proofs.Qxb6600385a
open Go.RowKit

set_option maxHeartbeats 400000 in
theorem fives_any (c : Nat) (w : World) (h0 : 0 < c) (hc : c < 18446744073709551616) :
    Calls Try.prog 11 #[.int .u64 (c : Int)] w fun e w' => e = .returned (.int .i64 (fv c : Int)) ∧ w' = w := by
  go_enter Try.func11, Try.ntmps11
  go_wp2
  go_loop [3, 4, 5] (fun vp vk vj => ∃ p k j : Nat, j ≤ 28 ∧ vp = .int .u64 (p : Int) ∧ vk = .int .i64 (k : Int) ∧ vj = .int .i64 (j : Int) ∧ Hid (FvInv c j k p)) (fun _ _ vj => 28 - (intOf vj).toNat)
  case atStart => exact ⟨1, 0, 1, by omega, rfl, rfl, rfl, FvInv.start c⟩
  case round =>
    obtain ⟨p, k, j, hj, rfl, rfl, rfl, HI⟩ := hrel
    have hb := HI.out.bound hj
    by_cases hj28 : j < 28
    · have hb5 := HI.out.bound5 (by omega)
      have em : (c : Int) % ((p : Int) * 5) = ((c % (p * 5) : Nat) : Int) := by simp
      have EM := Lib.hid em
      clear em
      by_cases hd : c % (p * 5) = 0
      · have hdb : ((c : Int) % ((p : Int) * 5) == 0) = true := by rw [EM.out, hd]; rfl
        go_wp2
        go_round
        case rel => exact ⟨p * 5, j, j + 1, by omega, by go_num, rfl, by go_num, HI.out.hit hd⟩
        case measure => simp [intOf]; omega
      · have hdb : ((c : Int) % ((p : Int) * 5) == 0) = false := by rw [EM.out, beq_eq_false_iff_ne]; omega
        go_wp2
        go_round
        case rel => exact ⟨p * 5, k, j + 1, by omega, by go_num, rfl, by go_num, HI.out.miss hd⟩
        case measure => simp [intOf]; omega
    · have hjn : ¬ (j : Int) ≤ 27 := by omega
      obtain rfl : j = 28 := by omega
      go_wp2
      go_ret
      exact ⟨by rw [← HI.out.done h0 hc]; rfl, rfl⟩
/-- n Decimals with the coefficients z, in block b. -/
def Decs (w : World) (b n : Nat) (z : Nat → Nat) : Prop :=
  ∀ k, k < n → w.cell? ⟨b, k * 3, none⟩ = some (.int .u64 (z k : Int)) ∧ w.cell? ⟨b, k * 3 + 1, none⟩ = some (.int .u8 0) ∧ w.cell? ⟨b, k * 3 + 2, none⟩ = some (.bool false)

theorem Decs.below {w w' : World} {b n : Nat} {z : Nat → Nat} (h : Decs w b n z) (hw : Below w.heap.size w w') (hb : b < w.heap.size) : Decs w' b n z := fun k hk =>
  ⟨(hw.cell (p := ⟨b, k * 3, none⟩) hb).trans (h k hk).1, (hw.cell (p := ⟨b, k * 3 + 1, none⟩) hb).trans (h k hk).2.1, (hw.cell (p := ⟨b, k * 3 + 2, none⟩) hb).trans (h k hk).2.2⟩

/-- What tensOf answers. -/
def tensAns (T : Int) (z : Nat → Nat) (n : Nat) : Int := if T ≤ 19 then 0 else ((tens T.toNat z n - 19 : Nat) : Int)

theorem tensAns_of (t f n : Nat) (z : Nat → Nat) (h : 19 < (t : Int)) (hf : f = tens t z n) : tensAns (t : Int) z n = ((f - 19 : Nat) : Int) := by
  unfold tensAns
  rw [if_neg (by omega), Int.toNat_natCast, hf]
theorem ret_i {k : IntKind} {a b : Int} (h : a = b) : Ending.returned (.int k a) = .returned (.int k b) := by rw [h]

set_option maxHeartbeats 1000000 in
set_option maxRecDepth 100000 in
theorem tens_any (b n : Nat) (z : Nat → Nat) (T : Int) (w : World) (hT1 : -9223372036854775808 ≤ T) (hT2 : T ≤ 9223372036854775807) (hn : n ≤ 131072) (hz : ∀ k, z k < 18446744073709551616) (hb : b < w.heap.size) (hD : Decs w b n z) :
    Calls Try.prog 19 #[.slice (some ⟨b, 0, none⟩) n n, .int .i64 T] w fun e w' => e = .returned (.int .i64 (tensAns T z n)) ∧ Below w.heap.size w w' := by
  have HDs := Lib.hid hD
  have HZ := Lib.hid hz
  clear hD hz
  by_cases h19 : T ≤ 19
  · go_enter Try.func19, Try.ntmps19
    go_wp2
    go_ret
    exact ⟨by unfold tensAns; rw [if_pos h19]; rfl, Below.refl _ _⟩
  · obtain ⟨t, rfl⟩ : ∃ t : Nat, T = (t : Int) := ⟨T.toNat, by omega⟩
    have h19b : decide ((t : Int) ≤ 19) = false := decide_eq_false h19
    go_enter Try.func19, Try.ntmps19
    go_wp2
    go_loopw [5, 13] (fun vf vk wr => ∃ f k : Nat, k ≤ n ∧ f ≤ t ∧ vf = .int .i64 (f : Int) ∧ vk = .int .i64 (k : Int) ∧ Hid (f = tens t z k) ∧ Hid (Below w.heap.size w wr)) (fun _ vk _ => n - (intOf vk).toNat)
    case atStart => exact ⟨0, 0, by omega, by omega, rfl, rfl, rfl, Below.refl _ _⟩
    case round =>
      obtain ⟨f, k, hk, hf, rfl, rfl, HF, HB⟩ := hrel
      by_cases hkn : k < n
      · obtain ⟨c0, c1, c2⟩ := (HDs.out.below HB.out hb) k hkn
        have hzk := HZ.out k
        obtain ⟨zk, hzz⟩ : ∃ zk, z k = zk := ⟨_, rfl⟩
        rw [hzz] at c0 hzk
        have HZZ := Lib.hid hzz
        clear hzz
        have hknb : ((k : Int) < (n : Int)) := by omega
        go_wp2
        go_loop [5, 8] (fun vf vc => ∃ f' c' : Nat, f' ≤ t ∧ c' < 18446744073709551616 ∧ vf = .int .i64 (f' : Int) ∧ vc = .int .u64 (c' : Int) ∧ Hid (goal t c' f' = goal t zk f)) (fun vf _ => t - (intOf vf).toNat)
        case atStart => exact ⟨f, zk, hf, hzk, rfl, rfl, rfl⟩
        case round =>
          obtain ⟨f', c', hf', hc', rfl, rfl, HGo⟩ := hrel
          by_cases hft : f' < t
          · have hftb : ((f' : Int) < (t : Int)) := by omega
            by_cases h5 : c' % 5 = 0
            · have h5b : ((c' : Int) % 5 == 0) = true := by simp; omega
              go_wp2
              go_round
              case rel => exact ⟨f' + 1, c' / 5, by omega, by omega, by go_num, by go_num, (goal_step t c' f' hc' h5).trans HGo.out⟩
              case measure => simp [intOf]; omega
            · have h5b : ((c' : Int) % 5 == 0) = false := by simp; omega
              go_wp2
              go_roundw
              case rel => exact ⟨f', k + 1, by omega, by omega, rfl, by go_num, by show _ = _; rw [tens, HZZ.out, ← HF.out, ← HGo.out, goal_none t c' f' hf' h5], HB.out.alloc HB.out.size _⟩
              case measure => simp [intOf]; omega
          · have hftb : ¬ ((f' : Int) < (t : Int)) := by omega
            go_wp2
            go_roundw
            case rel => exact ⟨f', k + 1, by omega, by omega, rfl, by go_num, by show _ = _; rw [tens, HZZ.out, ← HF.out, ← HGo.out, goal_full t c' f' (by omega)], HB.out.alloc HB.out.size _⟩
            case measure => simp [intOf]; omega
      · have hkn' : ¬ (k : Int) < (n : Int) := by omega
        have HA := Lib.hid (tensAns_of t f n z (by omega) (by rw [HF.out, show k = n by omega]))
        go_wp2
        all_goals
          go_ret
        · exact ⟨ret_i (by have := HA.out; omega), HB.out⟩
        · exact ⟨ret_i (by have := HA.out; omega), HB.out⟩

theorem zztens_any (b n : Nat) (z : Nat → Nat) (T : Int) (w : World) (hT1 : -9223372036854775808 ≤ T) (hT2 : T ≤ 9223372036854775807) (hn : n ≤ 131072) (hz : ∀ k, z k < 18446744073709551616) (hb : b < w.heap.size) (hD : Decs w b n z) :
    Calls Try.prog 13 #[.slice (some ⟨b, 0, none⟩) n n, .int .i64 T] w fun e w' => e = .returned (.int .i64 (tensAns T z n)) ∧ Below w.heap.size w w' := by
  have HC := Lib.hid (tens_any b n z T w hT1 hT2 hn hz hb hD)
  clear hD hz
  go_enter Try.func13, Try.ntmps13
  go_wp2_with fail
  refine HC.out.mono ?_
  rintro e w1 ⟨rfl, hB⟩
  have HB := Lib.hid hB
  clear hB
  go_wp2
  go_ret
  exact ⟨rfl, HB.out⟩

/-- A slice of uint64 with the elements z: nil, or its cells. -/
def Sl (w : World) (a : Option Addr) (len : Nat) (z : Nat → Nat) : Prop :=
  (a = none ∧ len = 0) ∨ ∃ x, a = some x ∧ ∀ k, k < len → w.cell? (x.add k) = some (.int .u64 (z k : Int))

/-- A row of N cells in block b, none of them frozen. -/
def Room (w : World) (b N : Nat) : Prop := ∀ j, j < N → (∃ v, w.cell? ⟨b, j, none⟩ = some v) ∧ w.frozen? ⟨b, j, none⟩ = false

theorem room_made (w : World) (z : Array Value) (N : Nat) (t : TypeId) : Room (w.alloc (.cells (madeCells z N) t)) w.heap.size N := fun j hj =>
  ⟨⟨(madeCells z N)[j]'(by rw [size_madeCells]; exact hj), by rw [World.cell?_alloc_at _ _ _ _ rfl, Array.getElem?_eq_getElem (by rw [size_madeCells]; exact hj)]⟩, World.frozen?_alloc_at _ _ _ _ rfl⟩
theorem Room.alloc {w : World} {b N : Nat} (h : Room w b N) (hb : b < w.heap.size) (o : Obj) : Room (w.alloc o) b N := fun j hj =>
  ⟨by rw [World.cell?_alloc_past _ _ _ hb]; exact (h j hj).1, by rw [World.frozen?_alloc_old _ _ _ (by show b ≠ _; omega)]; exact (h j hj).2⟩
theorem cell_set_other (w : World) (b i j : Nat) (v : Value) (h : j ≠ i) : (w.setCell ⟨b, i, none⟩ v).cell? ⟨b, j, none⟩ = w.cell? ⟨b, j, none⟩ :=
  World.cell?_setCell_other _ _ _ _ (by intro e; injection e with _ e _; omega)
theorem Room.set {w : World} {b N : Nat} (h : Room w b N) (i : Nat) (v : Value) : Room (w.setCell ⟨b, i, none⟩ v) b N := fun j hj => by
  obtain ⟨⟨u, hu⟩, hf⟩ := h j hj
  exact ⟨RowKit.cell?_setCell_some hu, (World.frozen?_setCell _ _ _ _).trans hf⟩

theorem cell_lt {w : World} {p : Addr} {v : Value} (h : w.cell? p = some v) : p.block < w.heap.size := by
  rcases Nat.lt_or_ge p.block w.heap.size with l | l
  · exact l
  · unfold World.cell? at h
    rw [Array.getElem?_eq_none (by omega)] at h
    simp at h

theorem info24 : (Try.prog.info? 24).map (fun i => (i.zero, i.size, i.bytes)) = some (some (.int .u64 0), 1, 8) := by kernel_rfl

set_option maxHeartbeats 1000000 in
set_option maxRecDepth 100000 in
theorem clone_any (a : Option Addr) (len cap : Nat) (z : Nat → Nat) (w : World) (hl : len ≤ 131072) (hS : Sl w a len z) :
    Calls Try.prog 10 #[.slice a len cap] w fun e w' => ∃ a' : Option Addr, e = .returned (.slice a' len len) ∧ Sl w' a' len z ∧ Below w.heap.size w w' := by
  have hnil := fun w => Lib.run_eql_slice_nil (P := Try.prog) w 22 24 a len cap 0 0 Try.underlying22
  rcases hS with ⟨rfl, rfl⟩ | ⟨x, rfl, hx⟩
  · simp only [Option.isNone_none] at hnil
    go_enter Try.func10, Try.ntmps10
    go_wp2
    go_ret
    exact ⟨none, rfl, .inl ⟨rfl, rfl⟩, Below.refl _ _⟩
  · have hmk := fun w => Go.run_make_row' (P := Try.prog) 22 24 (.int .u64 0) 8 Try.underlying22 info24 rfl .i64 .i64 len (by omega) (by omega) w
    have HX := Lib.hid hx
    clear hx
    go_enter Try.func10, Try.ntmps10
    go_wp2
    go_loopw [4] (fun vk wr => ∃ k : Nat, k ≤ len ∧ vk = .int .i64 (k : Int) ∧ Hid (Room wr w.heap.size len) ∧ Hid (∀ t, t < k → wr.cell? ⟨w.heap.size, t, none⟩ = some (.int .u64 (z t : Int))) ∧ Hid (Below w.heap.size w wr)) (fun vk _ => len - (intOf vk).toNat)
    case atStart => exact ⟨0, by omega, rfl, room_made _ _ _ _, fun t ht => by omega, (Below.refl _ _).alloc (Nat.le_refl _) _⟩
    case round =>
      obtain ⟨k, hk, rfl, HR, HC, HB⟩ := hrel
      by_cases hkl : k < len
      · have hkb : (k : Int) < (len : Int) := by omega
        have hcx : wr.cell? (x.add k) = some (.int .u64 (z k : Int)) := by
          rw [HB.out.cell (p := x.add k) ?_]
          · exact HX.out k hkl
          · exact cell_lt (HX.out k hkl)
        obtain ⟨g0, hg0⟩ := (HR.out k hkl).1
        have hf0 := (HR.out k hkl).2
        go_wp2
        go_roundw
        case rel =>
          refine ⟨k + 1, by omega, by go_num, HR.out.set k _, ?_, HB.out.setCell (Nat.le_refl _) _⟩
          intro t ht
          by_cases e : t = k
          · subst e; exact World.cell?_setCell_same _ _ _ hg0
          · rw [cell_set_other _ _ _ _ _ e]; exact HC.out t (by omega)
        case measure => simp [intOf]; omega
      · have hkb : ¬ (k : Int) < (len : Int) := by omega
        go_wp2
        go_ret
        refine ⟨_, rfl, .inr ⟨_, rfl, fun t ht => ?_⟩, HB.out⟩
        rw [Addr.add_lit, Nat.zero_add]
        exact HC.out t (by omega)

theorem info32 : (Try.prog.info? 32).map (fun i => (i.zero, i.size, i.bytes)) = some (some (.agg #[.int .u64 0, .int .u8 0, .bool false]), 3, 16) := by kernel_rfl

theorem zzdec_any (c : Int) (w : World) :
    Calls Try.prog 15 #[.int .u64 c, .int .u8 0, .bool false] w fun e w' =>
      e = .returned (.agg #[.int .u64 c, .int .u8 0, .bool false]) ∧ ∃ cs, w' = w.alloc (.cells cs 32) := by
  go_enter Try.func15, Try.ntmps15
  go_wp2
  simp [bodyPost, results, Try.results15, go_sem]
  exact ⟨_, rfl⟩

theorem make_decs (len : Nat) (hl : len ≤ 131072) (w : World) :
    (Instr.makeSlice 27 (.int .i64 (len : Int)) (.int .i64 (len : Int))).run Try.prog w = .ok (.slice (some ⟨w.heap.size, 0, none⟩) len len) (w.alloc (.cells (madeCells #[.int .u64 0, .int .u8 0, .bool false] (len * 3)) 32)) := by
  obtain ⟨i, hi, hzz⟩ := Option.map_eq_some_iff.1 info32
  simp only [Prod.mk.injEq] at hzz
  obtain ⟨hz, hs, hb⟩ := hzz
  have hr := run_make (P := Try.prog) w 27 32 i _ (by kernel_rfl) hi hz .i64 .i64 len len (by omega) (Int.le_refl _) (by rw [hb]; omega) (by omega)
  rw [hs] at hr
  simpa [Value.cells] using hr

theorem decs_step {w : World} {b k N : Nat} {z : Nat → Nat} (hR : Room w b N) (hN : k * 3 + 2 < N) (hD : Decs w b k z) :
    Decs (((w.setCell ⟨b, k * 3, none⟩ (.int .u64 (z k : Int))).setCell ⟨b, k * 3 + 1, none⟩ (.int .u8 0)).setCell ⟨b, k * 3 + 2, none⟩ (.bool false)) b (k + 1) z := by
  intro t ht
  by_cases e : t = k
  · subst e
    obtain ⟨g0, hg0⟩ := (hR (t * 3) (by omega)).1
    obtain ⟨g1, hg1⟩ := ((hR.set (t * 3) (.int .u64 (z t : Int))) (t * 3 + 1) (by omega)).1
    obtain ⟨g2, hg2⟩ := (((hR.set (t * 3) (.int .u64 (z t : Int))).set (t * 3 + 1) (.int .u8 0)) (t * 3 + 2) (by omega)).1
    refine ⟨?_, ?_, World.cell?_setCell_same _ _ _ hg2⟩
    · rw [cell_set_other _ _ _ _ _ (by omega), cell_set_other _ _ _ _ _ (by omega)]
      exact World.cell?_setCell_same _ _ _ hg0
    · rw [cell_set_other _ _ _ _ _ (by omega)]
      exact World.cell?_setCell_same _ _ _ hg1
  · obtain ⟨h0, h1, h2⟩ := hD t (by omega)
    refine ⟨?_, ?_, ?_⟩
    · rw [cell_set_other _ _ _ _ _ (by omega), cell_set_other _ _ _ _ _ (by omega), cell_set_other _ _ _ _ _ (by omega)]; exact h0
    · rw [cell_set_other _ _ _ _ _ (by omega), cell_set_other _ _ _ _ _ (by omega), cell_set_other _ _ _ _ _ (by omega)]; exact h1
    · rw [cell_set_other _ _ _ _ _ (by omega), cell_set_other _ _ _ _ _ (by omega), cell_set_other _ _ _ _ _ (by omega)]; exact h2

set_option maxHeartbeats 1000000 in
set_option maxRecDepth 100000 in
theorem decs_any (a : Option Addr) (len cap : Nat) (z : Nat → Nat) (w : World) (hl : len ≤ 131072) (hS : Sl w a len z) :
    Calls Try.prog 12 #[.slice a len cap] w fun e w' => e = .returned (.slice (some ⟨w.heap.size, 0, none⟩) len len) ∧ Decs w' w.heap.size len z ∧ w.heap.size < w'.heap.size ∧ Below w.heap.size w w' := by
  have hmk := make_decs len hl
  have HS := Lib.hid hS
  clear hS
  go_enter Try.func12, Try.ntmps12
  go_wp2
  go_loopw [4] (fun vk wr => ∃ k : Nat, k ≤ len ∧ vk = .int .i64 (k : Int) ∧ Hid (Room wr w.heap.size (len * 3)) ∧ Hid (Decs wr w.heap.size k z) ∧ Hid (Below w.heap.size w wr) ∧ w.heap.size < wr.heap.size) (fun vk _ => len - (intOf vk).toNat)
  case atStart => exact ⟨0, by omega, rfl, room_made _ _ _ _, fun t ht => by omega, (Below.refl _ _).alloc (Nat.le_refl _) _, by simp⟩
  case round =>
    obtain ⟨k, hk, rfl, HR, HC, HB, hsz⟩ := hrel
    by_cases hkl : k < len
    · have hkb : (k : Int) < (len : Int) := by omega
      rcases HS.out with ⟨_, h0⟩ | ⟨x, hxa, hx⟩
      · omega
      · subst hxa
        have hcx : wr.cell? (x.add k) = some (.int .u64 (z k : Int)) := by
          rw [HB.out.cell (p := x.add k) (cell_lt (hx k hkl))]
          exact hx k hkl
        clear hx
        go_wp2_with fail
        refine (zzdec_any _ _).mono ?_
        rintro e w1 ⟨rfl, cs, hw1⟩
        have hR1 := HR.out.alloc hsz (.cells cs 32)
        rw [← hw1] at hR1
        obtain ⟨g0, hg0⟩ := (hR1 (k * 3) (by omega)).1
        have hf0 := (hR1 (k * 3) (by omega)).2
        obtain ⟨g1, hg1⟩ := (hR1 (k * 3 + 1) (by omega)).1
        have hf1 := (hR1 (k * 3 + 1) (by omega)).2
        obtain ⟨g2, hg2⟩ := (hR1 (k * 3 + 2) (by omega)).1
        have hf2 := (hR1 (k * 3 + 2) (by omega)).2
        have HW1 := Lib.hid hw1
        have HR1 := Lib.hid hR1
        clear hw1 hR1
        go_wp2
        go_roundw
        case rel =>
          refine ⟨k + 1, by omega, by go_num, ((HR1.out.set _ _).set _ _).set _ _, ?_, ?_, ?_⟩
          · refine decs_step HR1.out (by omega) ?_
            rw [HW1.out]
            intro t ht
            rw [World.cell?_alloc_past _ _ _ hsz, World.cell?_alloc_past _ _ _ hsz, World.cell?_alloc_past _ _ _ hsz]
            exact HC.out t ht
          · rw [HW1.out]
            exact (((HB.out.alloc (by omega) _).setCell (Nat.le_refl _) _).setCell (Nat.le_refl _) _).setCell (Nat.le_refl _) _
          · rw [HW1.out]
            simp [World.setCell]
            omega
        case measure => simp [intOf]; omega
    · have hkb : ¬ (k : Int) < (len : Int) := by omega
      go_wp2
      go_ret
      exact ⟨rfl, fun t ht => HC.out t (by omega), hsz, HB.out⟩
end Go.Proofs.Qxb6600385a
