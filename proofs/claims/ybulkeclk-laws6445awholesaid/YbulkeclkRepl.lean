import Derived.Test.YbulkeclkRows
import Derived.WalkKit
namespace Go.Proofs.Ybulkeclk
open Go.RowKit

/-- WHAT 'replaceable' ANSWERS: the first segment whose newest time is at or after mv. -/
def ReplIs (s t : Nat → Int) (n : Nat) (mv cur r : Int) : Prop :=
  (∃ j, j < n ∧ (∀ i, i < j → t i < mv) ∧ mv ≤ t j ∧ r = wrap64 (min cur (s j) - 1)) ∨ ((∀ i, i < n → t i < mv) ∧ r = wrap64 (cur - 1))

set_option maxHeartbeats 400000 in
theorem repl_any (H B n c : Nat) (s t : Nat → Int) (mv cur : Int) (w : World) (hn : n ≤ 1048576) (hHw : H < w.heap.size) (hBw : B < w.heap.size)
    (h4 : w.cell? ⟨H, 4, none⟩ = some (.int .i64 mv)) (h5 : w.cell? ⟨H, 5, none⟩ = some (.slice (some ⟨B, 0, none⟩) n c))
    (hs : ∀ j, j < n → w.cell? ⟨B, j * 2, none⟩ = some (.int .i64 (s j))) (ht : ∀ j, j < n → w.cell? ⟨B, j * 2 + 1, none⟩ = some (.int .i64 (t j))) :
    Calls Yba.prog 5 #[.pointer (some ⟨H, 0, none⟩), .int .i64 cur] w fun e w' => ∃ r, e = .returned (.int .i64 r) ∧ ReplIs s t n mv cur r ∧ Below w.heap.size w w' := by
  go_enter Yba.func5, Yba.ntmps5
  go_wp2
  go_loopw [12] (fun i wr => ∃ k : Nat, k ≤ n ∧ i = .int .i64 k ∧ (∀ i, i < k → t i < mv) ∧ Below w.heap.size w wr) (fun i _ => n - (intOf i).toNat)
  case atStart => exact ⟨0, Nat.zero_le _, rfl, fun i hi => absurd hi (by omega), Below.refl _ _⟩
  case round =>
    obtain ⟨k, hk, rfl, hlow, hb⟩ := hrel
    have HL : Hid (∀ i, i < k → t i < mv) := hlow
    clear hlow
    by_cases hlt : k < n
    · have c0 : wr.cell? ⟨B, k * 2, none⟩ = some (.int .i64 (s k)) := (hb.cell (by exact hBw)).trans (hs k hlt)
      have c1 : wr.cell? ⟨B, k * 2 + 1, none⟩ = some (.int .i64 (t k)) := (hb.cell (by exact hBw)).trans (ht k hlt)
      have c4 : wr.cell? ⟨H, 4, none⟩ = some (.int .i64 mv) := (hb.cell (by exact hHw)).trans h4
      clear hs ht h4 h5
      have hHr : H < wr.heap.size := by have := hb.size; omega
      have hb2 : Below w.heap.size w (wr.alloc (.cells #[.int .i64 (s k), .int .i64 (t k)] 26)) := hb.alloc hb.size _
      by_cases hge : mv ≤ t k
      · go_wp2
        go_region
        all_goals go_wp2
        all_goals go_ret
        · exact ⟨_, rfl, .inl ⟨k, hlt, HL.out, hge, by rw [Int.min_eq_right (by omega)]⟩, hb2.drew⟩
        · exact ⟨_, rfl, .inl ⟨k, hlt, HL.out, hge, by rw [Int.min_eq_left (by omega)]⟩, hb2.drew⟩
      · have hge' : decide (mv ≤ t k) = false := decide_eq_false hge
        go_wp2
        go_region
        all_goals go_wp2
        go_roundw
        case rel => exact ⟨k + 1, by omega, by go_num, fun i hi => by rcases Nat.lt_succ_iff_lt_or_eq.1 hi with h | rfl; exact HL.out i h; omega, hb2.drew⟩
        case measure => simp [intOf]; omega
    · go_wp2
      go_ret
      obtain rfl : k = n := by omega
      exact ⟨_, rfl, .inr ⟨HL.out, rfl⟩, hb⟩
end Go.Proofs.Ybulkeclk
