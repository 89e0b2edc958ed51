/-
  THE WALKS of ZZDecimal, (Decimal).String, ZZText.
-/
import Derived.Test.Qxb6600385aText
namespace Go.Proofs.Qxb6600385a
open Go.RowKit Go.Sort Go.Lib

theorem zzdecimal_any (c s : Int) (neg : Bool) (w : World) :
    Calls Try.prog 15 #[.int .u64 c, .int .u8 s, .bool neg] w fun e w' =>
      e = .returned (.agg #[.int .u64 c, .int .u8 s, .bool neg]) ∧ ∃ cs, w' = w.alloc (.cells cs 32) := by
  go_enter Try.func15, Try.ntmps15
  go_wp2
  simp [bodyPost, results, Try.results15, go_sem]
  exact ⟨_, rfl⟩

theorem txt_pos (c s : Nat) (neg : Bool) : 1 ≤ (txt c s neg).length := by
  have := dec_len1 (c / 10 ^ s)
  unfold txt body
  cases neg <;> simp <;> omega

theorem holds_alloc {w : World} {blk : Nat} {d : Array UInt8} (hb : blk < w.heap.size) (h : Holds enc w blk 0 d) (o : Obj) : Holds enc (w.alloc o) blk 0 d := by
  rw [alloc_eq_grow]
  exact holds_grow enc w _ blk 0 d hb h

/-- 'text_any', the numbers in whatever spelling. -/
theorem text_at (blk : Nat) (C S : Int) (c s : Nat) (neg : Bool) (d0 : Array UInt8) (w : World) (hC : C = (c : Int)) (hS : S = (s : Int)) (hb : blk < w.heap.size) (hH : Holds enc w blk 0 d0) (hs0 : d0.size = 22) (hc : c < 18446744073709551616) (hs : s ≤ 19) :
    Calls Try.prog 20 #[.agg #[.int .u64 C, .int .u8 S, .bool neg], .pointer (some ⟨blk, 0, none⟩)] w fun e w' =>
      ∃ (dk : Array UInt8) (i : Nat), e = .returned (.int .i64 (i : Int)) ∧ Holds enc w' blk 0 dk ∧ Tail d0 dk i (txt c s neg) ∧ i < 22 ∧ w'.heap.size = w.heap.size + 1 ∧ (∀ k, k < w.heap.size → k ≠ blk → w'.heap[k]? = w.heap[k]?) ∧ ∀ W, Grown W w → W.heap.size ≤ blk → Grown W w' := by
  subst hC hS
  refine (text_any blk c s neg d0 w hb hH hs0 hc hs).mono ?_
  rintro e w' ⟨dk, q, rfl, rfl, hT⟩
  have h1 := txt_pos c s neg
  refine ⟨dk, _, rfl, holds_now q (holds_alloc hb hH _) hT.size, hT, by omega, by simp, fun k hk hne => ?_, fun W hW hB => grown_drewN (grown_putRow (hW.alloc _ _) hB 0 dk) q⟩
  show (putRow enc _ blk 0 dk).heap[k]? = _
  simp only [putRow, mapBlock, Array.getElem?_modify]
  rw [if_neg (by omega)]
  exact Below.heap_alloc w _ k hk

/-- 'buf[i:]', buf an array of 22 bytes. -/
theorem slice_tail (b i : Nat) (hi : i < 22) (w : World) :
    (Instr.sliceAt 39 (.pointer (some ⟨b, 0, none⟩)) (some (.int .i64 (i : Int))) none none).run Try.prog w = .ok (.slice (some ⟨b, i, none⟩) (22 - i) (22 - i)) w := by
  have hal : Try.prog.arrayLen 39 = 22 := by kernel_rfl
  have hel : Try.prog.elem 39 = 5 := by kernel_rfl
  have h5 : ∀ w, (sizeOf 5).run Try.prog w = .ok 1 w := fun w => by kernel_rfl
  rw [run_sliceAt_array_l w 39 _ (by rw [hal, hel]; exact Try.underlying39) .i64 _ (by omega) (by rw [hal]; omega), hal, hel, h5]
  simp only [Result.andThen, slicedAt, Int.toNat_natCast, Nat.mul_one]
  rw [if_neg (by omega), Addr.add_lit, Nat.zero_add]

/-- 'string(buf[i:])'. -/
theorem conv_tail (b i : Nat) (l : List UInt8) (d0 dk : Array UInt8) (w : World) (hs : d0.size = 22) (hT : Tail d0 dk i l) (hH : Holds enc w b 0 dk) :
    (convert 42 9 (.slice (some ⟨b, i, none⟩) (22 - i) (22 - i))).run Try.prog w = .ok (.string ⟨l.toArray⟩) w := by
  have hat := hT.at_
  have hsz := hT.size
  have hl : 22 - i = l.length := by omega
  rw [hl]
  refine run_convert_bytes_back w 42 9 5 _ _ l Try.underlying42 Try.underlying5 Try.underlying9 (fun j hj => ?_)
  have hc := row_cell hH (i + j) (by omega)
  have hd := hT.done (i + j)
  rw [if_neg (by omega), show i + j - i = j by omega, List.getElem?_eq_getElem hj] at hd
  have hd' : dk[i + j]! = l[j] := by rw [Array.getElem!_eq_getD, Array.getD_eq_getD_getElem?, hd]; rfl
  rw [hd'] at hc
  rw [Addr.add_lit]
  exact hc

theorem small_one_fin : ∀ i : Fin 10, smalls.extract (2 * i.val + 1) (2 * i.val + 2) = ⟨#[UInt8.ofNat (48 + i.val)]⟩ := by decide +kernel
theorem small_two_fin : ∀ i : Fin 100, smalls.extract (2 * i.val) (2 * i.val + 2) = ⟨#[UInt8.ofNat (48 + i.val / 10), UInt8.ofNat (48 + i.val % 10)]⟩ := by decide +kernel

theorem txt_one (c : Nat) (h : c < 10) : (⟨(txt c 0 false).toArray⟩ : ByteArray) = smalls.extract (2 * c + 1) (2 * c + 2) := by
  rw [small_one_fin ⟨c, h⟩]
  simp [txt, body, tailOf, decDigits_one h]
theorem txt_two (c : Nat) (h1 : 10 ≤ c) (h : c < 100) : (⟨(txt c 0 false).toArray⟩ : ByteArray) = smalls.extract (2 * c) (2 * c + 2) := by
  rw [small_two_fin ⟨c, h⟩]
  simp [txt, body, tailOf, decDigits_two (by omega : ¬ c < 10) h]

theorem ret_str {a b : ByteArray} (h : a = b) : Ending.returned (.string a) = .returned (.string b) := by rw [h]

set_option maxHeartbeats 400000 in
set_option maxRecDepth 100000 in
theorem string_small (c : Nat) (w : World) (hc : c < 100) :
    Calls Try.prog 16 #[.agg #[.int .u64 (c : Int), .int .u8 0, .bool false]] w fun e w' =>
      e = .returned (.string ⟨(txt c 0 false).toArray⟩) ∧ Grown w w' := by
  by_cases h10 : c < 10
  · go_enter Try.func16, Try.ntmps16
    go_name_bytes SM hSM
    have eSM : SM = Lib.smalls := by rw [← hSM]; decide +kernel
    subst eSM
    clear hSM
    have hz : (smalls.size : Int) = 200 := by rw [smalls_size]; rfl
    have hz' : smalls.size = 200 := smalls_size
    go_wp2
    go_ret
    exact ⟨ret_str (txt_one c h10).symm, (Grown.refl _).alloc _ _⟩
  · go_enter Try.func16, Try.ntmps16
    go_name_bytes SM hSM
    have eSM : SM = Lib.smalls := by rw [← hSM]; decide +kernel
    subst eSM
    clear hSM
    have hz : (smalls.size : Int) = 200 := by rw [smalls_size]; rfl
    have hz' : smalls.size = 200 := smalls_size
    go_wp2
    go_ret
    exact ⟨ret_str (txt_two c (by omega) hc).symm, (Grown.refl _).alloc _ _⟩

/-- The 22 zero bytes of 'var buf [22]byte'. -/
def zeros22 : Array UInt8 := Array.replicate 22 0
def cells22 : Array Value := #[.int .u8 0, .int .u8 0, .int .u8 0, .int .u8 0, .int .u8 0, .int .u8 0, .int .u8 0, .int .u8 0, .int .u8 0, .int .u8 0, .int .u8 0, .int .u8 0, .int .u8 0, .int .u8 0, .int .u8 0, .int .u8 0, .int .u8 0, .int .u8 0, .int .u8 0, .int .u8 0, .int .u8 0, .int .u8 0]
theorem cells22_eq : cells22 = zeros22.map enc := by
  apply Array.toList_inj.1
  rw [Array.toList_map, zeros22, Array.toList_replicate, List.map_replicate]
  rfl
theorem holds_zero22 (w : World) (n : Nat) (hn : n = w.heap.size) : Holds enc (w.alloc (.cells cells22 39)) n 0 zeros22 := by
  rw [cells22_eq]
  exact holds_fresh w zeros22 39 n hn

set_option maxHeartbeats 1000000 in
set_option maxRecDepth 100000 in
theorem string_big (C S : Int) (c s : Nat) (neg : Bool) (w : World) (hC : C = (c : Int)) (hS : S = (s : Int)) (hc : c < 18446744073709551616) (hs : s ≤ 19)
    (h : (S == 0) = false ∨ ((S == 0) = true ∧ neg = true) ∨ ((S == 0) = true ∧ neg = false ∧ 100 ≤ c)) :
    Calls Try.prog 16 #[.agg #[.int .u64 C, .int .u8 S, .bool neg]] w fun e w' =>
      e = .returned (.string ⟨(txt c s neg).toArray⟩) ∧ Grown w w' := by
  have hC1 : 0 ≤ C := by omega
  have hC2 : C < 18446744073709551616 := by omega
  have hS1 : 0 ≤ S := by omega
  have hS2 : S ≤ 19 := by omega
  have HC := Lib.hid hC
  have HS := Lib.hid hS
  rcases h with h | ⟨h, rfl⟩ | ⟨h, rfl, h3⟩
  case' inr.inr => have h4 : 100 ≤ C := by omega
  all_goals
    clear hC hS
    go_enter Try.func16, Try.ntmps16
    go_wp2_with fail
    refine (text_at (w.heap.size + 1) C S c s _ zeros22 _ HC.out HS.out ?_ ?_ rfl hc hs).mono ?_
    · simp
    · exact holds_zero22 _ _ (by simp)
    rintro e w1 ⟨dk, i, rfl, hH1, hT, hi, _, _, hG1⟩
    have hsl := slice_tail (w.heap.size + 1) i hi w1
    have hcv := conv_tail (w.heap.size + 1) i _ zeros22 dk w1 rfl hT hH1
    have HG := Lib.hid (hG1 w (((Grown.refl w).alloc _ _).alloc _ _) (by omega))
    clear hT hH1 hG1
    go_wp2
    go_ret
    exact ⟨rfl, HG.out⟩

/-- (Decimal).String, whatever the fields (the scale up to 19). -/
theorem string_at (C S : Int) (c s : Nat) (neg : Bool) (w : World) (hC : C = (c : Int)) (hS : S = (s : Int)) (hc : c < 18446744073709551616) (hs : s ≤ 19) :
    Calls Try.prog 16 #[.agg #[.int .u64 C, .int .u8 S, .bool neg]] w fun e w' =>
      e = .returned (.string ⟨(txt c s neg).toArray⟩) ∧ Grown w w' := by
  by_cases h0 : s = 0
  · cases hn : neg
    · by_cases h100 : c < 100
      · subst hC
        have hS0 : S = 0 := by omega
        subst hS0
        subst h0
        exact string_small c w h100
      · exact string_big C S c s false w hC hS hc hs (.inr (.inr ⟨by simp; omega, rfl, by omega⟩))
    · exact string_big C S c s true w hC hS hc hs (.inr (.inl ⟨by simp; omega, rfl⟩))
  · exact string_big C S c s neg w hC hS hc hs (.inl (by simp; omega))
end Go.Proofs.Qxb6600385a
