/-
  The cursor's word: two flags above a count; places modulo a power of two.
-/
import Derived.Test.YbulkecmmFmtAt
import Derived.Laws.Bits64b
set_option linter.unusedVariables false
set_option linter.unusedSimpArgs false
namespace Go.Proofs.YbulkecmmFmt
open Go.RowKit

theorem and_high (a m : Nat) : a &&& (m * 2 ^ 62) = ((a / 2 ^ 62) &&& m) * 2 ^ 62 := by
  rw [← Nat.shiftLeft_eq, ← Nat.shiftLeft_eq, ← Nat.shiftRight_eq_div_pow]
  apply Nat.eq_of_testBit_eq
  intro i
  simp only [Nat.testBit_and, Nat.testBit_shiftLeft, Nat.testBit_shiftRight]
  by_cases h : 62 ≤ i
  · simp [h, show 62 + (i - 62) = i by omega]
  · simp [h]

/-- x = fl flags above the count n. -/
def word (fl n : Nat) : Nat := fl * 2 ^ 62 + n
theorem word_lt {fl n : Nat} (hf : fl < 4) (hn : n < 2 ^ 62) : word fl n < 18446744073709551616 := by unfold word; omega
theorem word_div {fl n : Nat} (hn : n < 2 ^ 62) : word fl n / 2 ^ 62 = fl := by unfold word; omega
theorem bits_flags {fl n : Nat} (hf : fl < 4) (hn : n < 2 ^ 62) : bits .and .u64 (word fl n : Nat) 13835058055282163712 = ((fl * 2 ^ 62 : Nat) : Int) := by
  have := bits_and_u64_nat (word fl n) 13835058055282163712 (word_lt hf hn) (by decide)
  rw [show (13835058055282163712 : Nat) = 3 * 2 ^ 62 from rfl, and_high, word_div hn] at this
  have h3 : fl &&& 3 = fl := by
    rw [show (3 : Nat) = 2 ^ 2 - 1 from rfl, Nat.and_two_pow_sub_one_eq_mod]; omega
  rw [h3] at this
  exact this
theorem bits_closed {fl n : Nat} (hf : fl < 4) (hn : n < 2 ^ 62) : bits .and .u64 (word fl n : Nat) 9223372036854775808 = (((fl / 2) * 2 ^ 63 : Nat) : Int) := by
  have := bits_and_u64_nat (word fl n) 9223372036854775808 (word_lt hf hn) (by decide)
  rw [show (9223372036854775808 : Nat) = 2 * 2 ^ 62 from rfl, and_high, word_div hn] at this
  have h3 : fl &&& 2 = (fl / 2) * 2 := by
    have : ∀ q, q < 4 → q &&& 2 = (q / 2) * 2 := by decide
    exact this fl hf
  rw [h3] at this
  rw [show (2 * 2 ^ 62 : Nat) = 9223372036854775808 from rfl] at this
  rw [show ((9223372036854775808 : Nat) : Int) = 9223372036854775808 from rfl] at this
  rw [this]
  have : fl / 2 * 2 * 2 ^ 62 = fl / 2 * 2 ^ 63 := by omega
  rw [this]
theorem bits_count {fl n : Nat} (hf : fl < 4) (hn : n < 2 ^ 62) : bits .and .u64 (word fl n : Nat) 4611686018427387903 = (n : Int) := by
  have := bits_and_u64_nat (word fl n) 4611686018427387903 (word_lt hf hn) (by decide)
  rw [show (4611686018427387903 : Nat) = 2 ^ 62 - 1 from rfl, Nat.and_two_pow_sub_one_eq_mod] at this
  have h : word fl n % 2 ^ 62 = n := by unfold word; omega
  rw [h] at this
  exact this
theorem bits_word {fl n : Nat} (hf : fl < 4) (hn : n < 2 ^ 62) : bits .or .u64 ((fl * 4611686018427387904 : Nat) : Int) (n : Int) = (word fl n : Nat) := by
  have := bits_or_u64_nat (fl * 4611686018427387904) n (by omega) (by omega)
  rw [this, show fl * 4611686018427387904 = 2 ^ 62 * fl by omega, ← Nat.two_pow_add_eq_or_of_lt hn]
  congr 1
  unfold word
  omega
theorem word_zero (n : Nat) : word 0 n = n := by unfold word; omega

/-- A count is a word without flags. -/
theorem bits_count0 {n : Nat} (hn : n < 2 ^ 62) : bits .and .u64 (n : Int) 4611686018427387903 = (n : Int) := by
  have := bits_count (fl := 0) (n := n) (by decide) hn
  rwa [word_zero] at this

/-- The ring's sizes: powers of two up to 128. -/
def isCap (c : Nat) : Prop := ∃ e, e < 8 ∧ c = 2 ^ e
theorem isCap.pos {c : Nat} (h : isCap c) : 0 < c := by obtain ⟨e, _, rfl⟩ := h; exact Nat.two_pow_pos e
theorem isCap.le {c : Nat} (h : isCap c) : c ≤ 128 := by
  obtain ⟨e, he, rfl⟩ := h
  have : 2 ^ e ≤ 2 ^ 7 := Nat.pow_le_pow_right (by decide) (by omega)
  simpa using this
theorem isCap.mask {c n : Nat} (h : isCap c) (hn : n < 18446744073709551616) : bits .and .u64 (n : Int) ((c - 1 : Nat) : Int) = ((n % c : Nat) : Int) := by
  have hl := h.le
  obtain ⟨e, he, rfl⟩ := h
  rw [bits_and_u64_nat n (2 ^ e - 1) hn (by omega), Nat.and_two_pow_sub_one_eq_mod]

theorem isCap.cases {c : Nat} (h : isCap c) : c = 1 ∨ c = 2 ∨ c = 4 ∨ c = 8 ∨ c = 16 ∨ c = 32 ∨ c = 64 ∨ c = 128 := by
  obtain ⟨e, he, rfl⟩ := h
  have : e = 0 ∨ e = 1 ∨ e = 2 ∨ e = 3 ∨ e = 4 ∨ e = 5 ∨ e = 6 ∨ e = 7 := by omega
  rcases this with rfl | rfl | rfl | rfl | rfl | rfl | rfl | rfl <;> decide
/-- How far place i lies behind place n mod c. -/
def plc (c n i : Nat) : Nat := (i + c - n % c) % c
theorem plc_of {c n d : Nat} (hc : isCap c) (hd : d < c) : plc c n ((n + d) % c) = d := by
  unfold plc
  rcases hc.cases with rfl | rfl | rfl | rfl | rfl | rfl | rfl | rfl <;> omega
theorem plc_at {c n i : Nat} (hc : isCap c) (hi : i < c) : (n + plc c n i) % c = i := by
  unfold plc
  rcases hc.cases with rfl | rfl | rfl | rfl | rfl | rfl | rfl | rfl <;> omega
theorem plc_lt {c n i : Nat} (hc : isCap c) : plc c n i < c := Nat.mod_lt _ hc.pos
theorem plc_iff {c n d i : Nat} (hc : isCap c) (hd : d < c) (hi : i < c) : plc c n i = d ↔ i = (n + d) % c :=
  ⟨fun h => by rw [← h, plc_at hc hi], fun h => by rw [h, plc_of hc hd]⟩
/-- Without a turn the places lie in a row. -/
theorem plc_flat {c n k i : Nat} (hc : isCap c) (hk : n % c + k ≤ c) (hi : i < c) : (plc c n i < k ↔ n % c ≤ i ∧ i < n % c + k) ∧ (n % c ≤ i → i < n % c + k → plc c n i = i - n % c) := by
  unfold plc
  rcases hc.cases with rfl | rfl | rfl | rfl | rfl | rfl | rfl | rfl <;> omega
/-- With a turn: the tail of the row, then its head. -/
theorem plc_turn {c n k i : Nat} (hc : isCap c) (hk : c < n % c + k) (hkc : k ≤ c) (hi : i < c) : (n % c ≤ i → plc c n i = i - n % c ∧ plc c n i < k) ∧ (i < n % c → plc c n i = c - n % c + i) := by
  unfold plc
  rcases hc.cases with rfl | rfl | rfl | rfl | rfl | rfl | rfl | rfl <;> omega
end Go.Proofs.YbulkecmmFmt
