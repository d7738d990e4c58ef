/-
  slices.Index, Contains, Equal over []string, by contract.
-/
import Derived.Test.YbulkecmmFmtPtr
import Derived.Deep.QuietTactic
import Derived.BigQuiet
import Derived.Deep.Draws
set_option linter.unusedVariables false
set_option linter.unusedSimpArgs false
namespace Go.Proofs.YbulkecmmFmt
open Go.RowKit

/-- n strings lie where the slice's address says. -/
def Strs (w : World) (a : Option Addr) (n : Nat) (f : Nat → ByteArray) : Prop := ∀ i, i < n → ∃ b o, a = some ⟨b, o, none⟩ ∧ w.cell? ⟨b, o + i, none⟩ = some (.string (f i))

/-- Is v among the first n? -/
def hasB (f : Nat → ByteArray) (n : Nat) (v : ByteArray) : Bool := (List.range n).any fun i => v.toList == (f i).toList
theorem hasB_true {f : Nat → ByteArray} {n : Nat} {v : ByteArray} {i : Nat} (hi : i < n) (h : (v.toList == (f i).toList) = true) : hasB f n v = true :=
  List.any_eq_true.2 ⟨i, List.mem_range.2 hi, h⟩
theorem hasB_false {f : Nat → ByteArray} {n : Nat} {v : ByteArray} (h : ∀ i, i < n → (v.toList == (f i).toList) = false) : hasB f n v = false := by
  rw [hasB, List.any_eq_false]
  intro i hi
  simp [h i (List.mem_range.1 hi)]

set_option maxRecDepth 100000 in
set_option maxHeartbeats 400000 in
theorem index_any (a : Option Addr) (n c : Nat) (f : Nat → ByteArray) (v : ByteArray) (w : World) (hn : n ≤ 9223372036854775807) (hs : Strs w a n f) :
    Calls Ybaf.prog 29 #[.slice a n c, .string v] w fun e w' => (∃ r : Int, e = .returned (.int .i64 r) ∧ decide (0 ≤ r) = hasB f n v) ∧ w' = w := by
  go_enter Ybaf.func29, Ybaf.ntmps29
  go_wp2
  go_loop [8] (fun i => ∃ k : Nat, k ≤ n ∧ i = .int .i64 k ∧ ∀ j, j < k → (v.toList == (f j).toList) = false) (fun i => n - (intOf i).toNat)
  case atStart => exact ⟨0, Nat.zero_le _, rfl, fun j hj => absurd hj (by omega)⟩
  case round =>
    obtain ⟨k, hk, rfl, hlow⟩ := hrel
    have HL : Hid (∀ j, j < k → (v.toList == (f j).toList) = false) := hlow
    clear hlow
    by_cases hkn : k < n
    · obtain ⟨b, o, rfl, hc⟩ := hs k hkn
      have HS : Hid (Strs w (some ⟨b, o, none⟩) n f) := hs
      clear hs
      cases he : (v.toList == (f k).toList) with
      | true =>
        go_wp2
        go_ret
        exact ⟨⟨_, rfl, by rw [hasB_true hkn he]; simp⟩, rfl⟩
      | false =>
        go_wp2
        go_round
        case rel => exact ⟨k + 1, by omega, by go_num, fun j hj => by rcases Nat.lt_succ_iff_lt_or_eq.1 hj with h | rfl; exact HL.out j h; exact he⟩
        case measure => simp [intOf]; omega
    · go_wp2
      go_ret
      exact ⟨⟨_, rfl, by rw [hasB_false (fun i hi => HL.out i (by omega))]; rfl⟩, rfl⟩

set_option maxRecDepth 100000 in
set_option maxHeartbeats 400000 in
theorem contains_any (a : Option Addr) (n c : Nat) (f : Nat → ByteArray) (v : ByteArray) (w : World) (hn : n ≤ 9223372036854775807) (hs : Strs w a n f) :
    Calls Ybaf.prog 10 #[.slice a n c, .string v] w fun e w' => e = .returned (.bool (hasB f n v)) ∧ w' = w := by
  go_enter Ybaf.func10, Ybaf.ntmps10
  go_wp2_with (go_at_call 29; refine (index_any a n c f v _ hn (by exact hs)).mono ?_; rintro e w' ⟨⟨r, rfl, hr⟩, rfl⟩)
  go_ret
  exact ⟨rfl, rfl⟩

set_option maxRecDepth 100000 in
set_option maxHeartbeats 400000 in
theorem equal_true (a b : Option Addr) (n c d : Nat) (f : Nat → ByteArray) (w : World) (hn : n ≤ 9223372036854775807) (hs : Strs w a n f) (ht : Strs w b n f) :
    Calls Ybaf.prog 15 #[.slice a n c, .slice b n d] w fun e w' => e = .returned (.bool true) ∧ ∃ q, w' = w.drewN q := by
  go_enter Ybaf.func15, Ybaf.ntmps15
  go_wp2
  go_loopw [13] (fun i wr => ∃ k q : Nat, k ≤ n ∧ i = .int .i64 k ∧ wr = w.drewN q) (fun i _ => n - (intOf i).toNat)
  case atStart => exact ⟨0, 0, Nat.zero_le _, rfl, rfl⟩
  case round =>
    obtain ⟨k, q, hk, rfl, rfl⟩ := hrel
    by_cases hkn : k < n
    · obtain ⟨b1, o1, rfl, h1⟩ := hs k hkn
      obtain ⟨b2, o2, rfl, h2⟩ := ht k hkn
      have hkn' : (k : Int) < (n : Int) := by omega
      clear hs ht
      go_wp2
      go_quiet (fail)
      go_wp2
      go_roundw
      case rel => exact ⟨k + 1, _, by omega, by go_num, rfl⟩
      case measure => simp [intOf]; omega
    · go_wp2
      go_ret
      exact ⟨rfl, q, rfl⟩
end Go.Proofs.YbulkecmmFmt
