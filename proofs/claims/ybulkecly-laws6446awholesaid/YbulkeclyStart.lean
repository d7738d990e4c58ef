import Derived.Test.YbulkeclyRows
import Derived.WalkKit
import Derived.WalkSpells
namespace Go.Proofs.Ybulkecly
open Go.RowKit

/-- The product of the hash's upper half and the table's length, and where it leads. -/
theorem start_bd (h : Int) (n : Nat) (h0 : 0 ≤ h) (h1 : h ≤ 18446744073709551615) (hn : n ≤ 65537) :
    0 ≤ h / 4294967296 * (n : Int) ∧ h / 4294967296 * (n : Int) ≤ 281483566645248 ∧ (0 < n → h / 4294967296 * (n : Int) / 4294967296 < (n : Int)) := by
  have a0 : 0 ≤ h / 4294967296 := by omega
  have a1 : h / 4294967296 ≤ 4294967295 := by omega
  have hn' : (n : Int) ≤ 65537 := by omega
  have e1 : h / 4294967296 * (n : Int) ≤ 4294967295 * (n : Int) := Int.mul_le_mul_of_nonneg_right a1 (by omega)
  exact ⟨Int.mul_nonneg a0 (by omega), by omega, fun hp => by omega⟩

set_option maxRecDepth 100000 in
set_option maxHeartbeats 400000 in
theorem start_any (T B n c : Nat) (h : Int) (w : World) (h0 : 0 ≤ h) (h1 : h ≤ 18446744073709551615) (hn : n ≤ 65537)
    (hT : w.cell? ⟨T, 0, none⟩ = some (.slice (some ⟨B, 0, none⟩) n c)) :
    Calls Yba.prog 5 #[.pointer (some ⟨T, 0, none⟩), .int .u64 h] w fun e w' => e = .returned (.int .i64 (h / 4294967296 * n / 4294967296)) ∧ w' = w := by
  obtain ⟨hp0, hp1, _⟩ := start_bd h n h0 h1 hn
  go_enter Yba.func5, Yba.ntmps5
  go_wp2
  go_ret
  exact ⟨rfl, rfl⟩

set_option maxRecDepth 100000 in
set_option maxHeartbeats 400000 in
theorem next_any (T B n c i : Nat) (w : World) (hi : i < n) (hn : n ≤ 65537)
    (hT : w.cell? ⟨T, 0, none⟩ = some (.slice (some ⟨B, 0, none⟩) n c)) :
    Calls Yba.prog 6 #[.pointer (some ⟨T, 0, none⟩), .int .i64 i] w fun e w' => e = .returned (.int .i64 (if i + 1 = n then 0 else i + 1 : Nat)) ∧ w' = w := by
  by_cases hin : i + 1 = n
  · have hin' : (((i : Int) + 1) == (n : Int)) = true := by simp; omega
    rw [if_pos hin]
    clear hin
    go_enter Yba.func6, Yba.ntmps6
    go_wp2
    go_ret
    exact ⟨rfl, rfl⟩
  · have hin' : (((i : Int) + 1) == (n : Int)) = false := by simp; omega
    rw [if_neg hin]
    clear hin
    go_enter Yba.func6, Yba.ntmps6
    go_wp2
    go_ret
    exact ⟨rfl, rfl⟩
end Go.Proofs.Ybulkecly
