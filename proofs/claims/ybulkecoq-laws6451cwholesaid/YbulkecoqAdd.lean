import Derived.Test.YbulkecoqRows
import Derived.WalkKit
import Derived.WalkSpells
import Derived.Below
import Derived.Laws.Rows
import Derived.Laws.Bits64b
namespace Go.Proofs.Ybulkecoq
open Go.RowKit

theorem Yba.size28 : (Yba.prog.info? 28).map (·.size) = some 3 := by kernel_rfl
theorem and_nsec : bits .and .u64 0 1073741823 = 0 := by decide +kernel
theorem andNot_nsec : bits .andNot .u64 0 1073741823 = 0 := by decide +kernel
theorem or_zero (n : Nat) (h : n < 1000000000) : bits .or .u64 0 (n : Int) = n := by
  have := bits_or_u64_nat 0 n (by omega) (by omega)
  simpa using this
theorem and_mono (n : Nat) (h : n < 1000000000) : bits .and .u64 (n : Int) 9223372036854775808 = 0 := by
  have h1 := bits_and_u64_nat n 9223372036854775808 (by omega) (by omega)
  have h2 : n &&& 9223372036854775808 = 0 := by
    apply Nat.eq_of_testBit_eq
    intro i
    rw [Nat.testBit_and, Nat.zero_testBit, show (9223372036854775808 : Nat) = 2 ^ 63 from rfl, Nat.testBit_two_pow]
    by_cases hi : 63 = i
    · subst hi; rw [Nat.testBit_lt_two_pow (by omega)]; rfl
    · simp [hi]
  rw [h2] at h1
  exact h1

theorem or_zero' (n : Int) (h0 : 0 ≤ n) (h1 : n < 1000000000) : bits .or .u64 0 n = n := by
  obtain ⟨k, rfl⟩ := Int.eq_ofNat_of_zero_le h0
  exact or_zero k (by omega)
theorem and_mono' (n : Int) (h0 : 0 ≤ n) (h1 : n < 1000000000) : bits .and .u64 n 9223372036854775808 = 0 := by
  obtain ⟨k, rfl⟩ := Int.eq_ofNat_of_zero_le h0
  exact and_mono k (by omega)

attribute [local go_sem] and_nsec andNot_nsec

set_option maxRecDepth 100000 in
theorem nsec_zero (T : Nat) (w : World) (h0 : w.cell? ⟨T, 0, none⟩ = some (.int .u64 0)) :
    Calls Yba.prog 7 #[.pointer (some ⟨T, 0, none⟩)] w fun e w' => e = .returned (.int .i32 0) ∧ w' = w := by
  go_enter Yba.func7, Yba.ntmps7
  go_wp2
  go_ret
  exact ⟨rfl, rfl⟩

set_option maxRecDepth 100000 in
theorem addSec_zero (T : Nat) (n d : Int) (w : World) (hn0 : 0 ≤ n) (hn1 : n < 1000000000) (hd0 : -9223372036854775808 ≤ d) (hd1 : d ≤ 9223372036854775807)
    (h0 : w.cell? ⟨T, 0, none⟩ = some (.int .u64 n)) (h1 : w.cell? ⟨T, 1, none⟩ = some (.int .i64 0)) (hf : w.frozen? ⟨T, 1, none⟩ = false) :
    Calls Yba.prog 8 #[.pointer (some ⟨T, 0, none⟩), .int .i64 d] w fun e w' => e = .returned (.tuple #[]) ∧ w' = w.setCell ⟨T, 1, none⟩ (.int .i64 d) := by
  have hm := and_mono' n hn0 hn1
  have hw : wrap64 d = d := by unfold wrap64; omega
  have hd : (decide (d > 0) == decide (d > 0)) = true := by simp
  go_enter Yba.func8, Yba.ntmps8
  go_wp2
  go_end0
  exact ⟨rfl, rfl⟩

set_option maxRecDepth 100000 in
theorem add_pos (x : Int) (w : World) (h0 : 0 ≤ x) (h1 : x ≤ 9223372036854775807) :
    Calls Yba.prog 4 #[.agg #[.int .u64 0, .int .i64 0, .pointer none], .int .i64 x] w fun e w' =>
      (∃ (a b : Int), e = .returned (.agg #[.int .u64 a, .int .i64 b, .pointer none])) ∧ Below w.heap.size w w' := by
  have hm0 : 0 ≤ x % 1000000000 := by omega
  have hm1 : x % 1000000000 < 1000000000 := by omega
  go_enter Yba.func4, Yba.ntmps4
  go_wp2_with fail
  refine (nsec_zero _ _ (by simp)).mono ?_
  rintro e w' ⟨rfl, rfl⟩
  go_wp2_with fail
  rw [or_zero' _ hm0 hm1]
  refine (addSec_zero _ (x % 1000000000) (x / 1000000000) _ hm0 hm1 (by omega) (by omega) (by simp) (by simp) (by simp)).mono ?_
  rintro e w' ⟨rfl, rfl⟩
  have hm := and_mono' _ hm0 hm1
  go_wp2
  refine bodyPost_ret (results_cell_row rfl _ _ (w.heap.size + 1) 28 _ _ _ rfl (heap_alloc2_new _ _ _) Yba.underlying28 rfl (by rw [Yba.size28]; rfl)) rfl ?_
  exact ⟨⟨_, _, rfl⟩, ((Below.refl _ _).alloc (Nat.le_refl _) _).alloc (by simp) _⟩

theorem neg_parts (x : Int) (h0 : -9223372036854775808 ≤ x) (h1 : x < 0) : ∃ q r, x.tdiv 1000000000 = q ∧ x.tmod 1000000000 = r ∧ -9223372036 ≤ q ∧ q ≤ 0 ∧ -1000000000 < r ∧ r ≤ 0 := by
  obtain ⟨y, hy⟩ : ∃ y, y = -x := ⟨_, rfl⟩
  obtain rfl : x = -y := by omega
  refine ⟨_, _, rfl, rfl, ?_⟩
  rw [Int.neg_tdiv, Int.neg_tmod, Int.tdiv_eq_ediv_of_nonneg (by omega), Int.tmod_eq_emod_of_nonneg (by omega)]
  omega

set_option maxRecDepth 100000 in
theorem add_neg (x : Int) (w : World) (h0 : -9223372036854775808 ≤ x) (h1 : x < 0) :
    Calls Yba.prog 4 #[.agg #[.int .u64 0, .int .i64 0, .pointer none], .int .i64 x] w fun e w' =>
      (∃ (a b : Int), e = .returned (.agg #[.int .u64 a, .int .i64 b, .pointer none])) ∧ Below w.heap.size w w' := by
  obtain ⟨q, r, hq, hr, q0, q1, r0, r1⟩ := neg_parts x h0 h1
  by_cases hz : r < 0
  · go_enter Yba.func4, Yba.ntmps4
    go_wp2_with fail
    refine (nsec_zero _ _ (by simp)).mono ?_
    rintro e w' ⟨rfl, rfl⟩
    go_wp2_with fail
    rw [or_zero' (r + 1000000000) (by omega) (by omega)]
    refine (addSec_zero _ (r + 1000000000) (q - 1) _ (by omega) (by omega) (by omega) (by omega) (by simp) (by simp) (by simp)).mono ?_
    rintro e w' ⟨rfl, rfl⟩
    have hm := and_mono' (r + 1000000000) (by omega) (by omega)
    go_wp2
    refine bodyPost_ret (results_cell_row rfl _ _ (w.heap.size + 1) 28 _ _ _ rfl (heap_alloc2_new _ _ _) Yba.underlying28 rfl (by rw [Yba.size28]; rfl)) rfl ?_
    exact ⟨⟨_, _, rfl⟩, ((Below.refl _ _).alloc (Nat.le_refl _) _).alloc (by simp) _⟩
  · obtain rfl : r = 0 := by omega
    go_enter Yba.func4, Yba.ntmps4
    go_wp2_with fail
    refine (nsec_zero _ _ (by simp)).mono ?_
    rintro e w' ⟨rfl, rfl⟩
    go_wp2_with fail
    rw [or_zero' 0 (by omega) (by omega)]
    refine (addSec_zero _ 0 q _ (by omega) (by omega) (by omega) (by omega) (by simp) (by simp) (by simp)).mono ?_
    rintro e w' ⟨rfl, rfl⟩
    have hm := and_mono' 0 (by omega) (by omega)
    go_wp2
    refine bodyPost_ret (results_cell_row rfl _ _ (w.heap.size + 1) 28 _ _ _ rfl (heap_alloc2_new _ _ _) Yba.underlying28 rfl (by rw [Yba.size28]; rfl)) rfl ?_
    exact ⟨⟨_, _, rfl⟩, ((Below.refl _ _).alloc (Nat.le_refl _) _).alloc (by simp) _⟩

theorem add_any (x : Int) (w : World) (h0 : -9223372036854775808 ≤ x) (h1 : x ≤ 9223372036854775807) :
    Calls Yba.prog 4 #[.agg #[.int .u64 0, .int .i64 0, .pointer none], .int .i64 x] w fun e w' =>
      (∃ (a b : Int), e = .returned (.agg #[.int .u64 a, .int .i64 b, .pointer none])) ∧ Below w.heap.size w w' := by
  by_cases h : 0 ≤ x
  · exact add_pos x w h h1
  · exact add_neg x w h0 (by omega)
end Go.Proofs.Ybulkecoq
