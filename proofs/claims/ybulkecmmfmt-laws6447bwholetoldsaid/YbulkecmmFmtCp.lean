/-
  The batch copied into the slots.
-/
import Derived.Test.YbulkecmmFmtPb
import Derived.Laws.IdiomCopy
import Derived.Deep.MidRow
set_option linter.unusedVariables false
set_option linter.unusedSimpArgs false
namespace Go.Proofs.YbulkecmmFmt
open Go.RowKit

/-- k integers behind a slice's address. -/
def Ints (w : World) (va : Option Addr) (k : Nat) (v : Nat → Int) : Prop := ∀ j, j < k → ∃ b o, va = some ⟨b, o, none⟩ ∧ w.cell? ⟨b, o + j, none⟩ = some (.int .i64 (v j))
theorem Ints.below {w w' : World} {va : Option Addr} {k X : Nat} {v : Nat → Int} (h : Ints w va k v) (hb : Below X w w') (hX : w.heap.size ≤ X) : Ints w' va k v := fun j hj => by
  obtain ⟨b, o, rfl, hc⟩ := h j hj
  exact ⟨b, o, rfl, (hb.cell (by have := World.block_lt_of_cell? w _ hc; omega)).trans hc⟩

theorem info3' : (Ybaf.prog.info? 3).map (·.size) = some 1 := by kernel_rfl

/-- 'copy(r.slots[o:], vs[d:])': m of them. -/
theorem copy_slots {B R S c : Nat} {pb : Option Nat} {gt : Option (Nat × Nat)} {x nx lm sh : Nat} {s : Nat → Int} {p : Nat → Nat} {g : Nat} {wz w0 w : World} (h : Rg B R S c pb gt x nx lm sh s p g wz w0 w)
    (b o' d k m o dcap vc : Nat) (v : Nat → Int) (hv : ∀ j, j < k → w.cell? ⟨b, o' + j, none⟩ = some (.int .i64 (v j))) (hd : d ≤ k) (ho : o ≤ c) (hm : m = Nat.min (k - d) (c - o)) (ty : TypeId) :
    ∃ w', (Builtin.copy_ #[24, 24] ty #[.slice (some ⟨S, o, none⟩) (c - o) dcap, .slice (some ⟨b, o' + d, none⟩) (k - d) vc]).run Ybaf.prog w = .ok (.int .i64 (m : Nat)) w' ∧ Rg B R S c pb gt x nx lm sh (fun i => if o ≤ i ∧ i < o + m then v (d + (i - o)) else s i) p g wz w0 w' := by
  have hmk : m ≤ k - d := by rw [hm]; exact Nat.min_le_left _ _
  have hmc : m ≤ c - o := by rw [hm]; exact Nat.min_le_right _ _
  have hS := h.slots
  obtain ⟨cs, hb, hn, hc⟩ := hS
  have hlen : ((List.range m).map fun j => (.int .i64 (v (d + j)) : Value)).length = m := by simp
  have hrun := run_copy_row (P := Ybaf.prog) w 24 24 ty 3 S o (c - o) dcap ⟨b, o' + d, none⟩ (k - d) vc cs 3 ((List.range m).map fun j => (.int .i64 (v (d + j)) : Value)) Ybaf.underlying24 info3' hb (by rw [hlen, hm]) (by
    intro j u hu
    rw [List.getElem?_map] at hu
    by_cases hj : j < m
    · rw [List.getElem?_range hj] at hu
      simp at hu
      subst hu
      rw [Addr.add_mid, Nat.add_assoc]
      exact hv (d + j) (by omega)
    · rw [List.getElem?_eq_none (by simpa using hj)] at hu; cases hu) (by rw [hlen, hn]; omega) (by
    intro u hu
    obtain ⟨j, _, rfl⟩ := List.mem_map.1 hu
    rfl)
  rw [hlen] at hrun
  refine ⟨_, hrun, ?_⟩
  · have hset := setRow_heap w S cs (cs.toList.take o ++ ((List.range m).map fun j => (.int .i64 (v (d + j)) : Value)) ++ cs.toList.drop (o + m)).toArray 3 (0, 0) hb
    refine h.turnS (w' := w.setRow S (cs.toList.take o ++ ((List.range m).map fun j => (.int .i64 (v (d + j)) : Value)) ++ cs.toList.drop (o + m)).toArray) rfl rfl rfl (by simp [World.setRow]) (fun k' _ hk => setRow_other w S k' _ hk) ⟨_, hset, ?_, fun i hi => ?_⟩
    · simp [hn]; omega
    · have hcl : cs.toList.length = c := by simpa using hn
      have hget : ∀ i, i < c → cs.toList[i]? = some (.int .i64 (s i)) := fun i hi => by simpa using hc i hi
      show _ = some (Value.int .i64 (if o ≤ i ∧ i < o + m then v (d + (i - o)) else s i))
      rw [List.getElem?_toArray]
      by_cases h1 : i < o
      · rw [List.append_assoc, List.getElem?_append_left (by simp; omega), List.getElem?_take_of_lt h1, hget i hi, if_neg (by omega)]
      · by_cases h2 : i < o + m
        · rw [List.append_assoc, List.getElem?_append_right (by simp; omega), List.getElem?_append_left (by simp; omega)]
          rw [show i - (List.take o cs.toList).length = i - o by simp; omega, List.getElem?_map, List.getElem?_range (by omega), if_pos ⟨by omega, h2⟩]
          rfl
        · rw [List.getElem?_append_right (by simp; omega), List.getElem?_drop, if_neg (by omega)]
          rw [show o + m + (i - (List.take o cs.toList ++ List.map (fun j => (.int .i64 (v (d + j)) : Value)) (List.range m)).length) = i by simp; omega]
          exact hget i hi

/-- What the batch leaves in the slots. -/
def wrt (s v : Nat → Int) (n k c i : Nat) : Int := if plc c n i < k then v (plc c n i) else s i
theorem wrt_flat {s v : Nat → Int} {n k c i : Nat} (hc : isCap c) (hk : n % c + k ≤ c) (hi : i < c) : (if n % c ≤ i ∧ i < n % c + k then v (0 + (i - n % c)) else s i) = wrt s v n k c i := by
  obtain ⟨h1, h2⟩ := plc_flat (n := n) hc hk hi
  unfold wrt
  by_cases h : n % c ≤ i ∧ i < n % c + k
  · rw [if_pos h, if_pos (h1.2 h), h2 h.1 h.2, Nat.zero_add]
  · rw [if_neg h, if_neg (fun e => h (h1.1 e))]
theorem wrt_turn {s v : Nat → Int} {n k c i : Nat} (hc : isCap c) (hk : c < n % c + k) (hkc : k ≤ c) (hi : i < c) :
    (if 0 ≤ i ∧ i < 0 + (k - (c - n % c)) then v (c - n % c + (i - 0)) else if n % c ≤ i ∧ i < n % c + (c - n % c) then v (0 + (i - n % c)) else s i) = wrt s v n k c i := by
  obtain ⟨h1, h2⟩ := plc_turn (n := n) hc hk hkc hi
  have hlt : n % c < c := Nat.mod_lt _ hc.pos
  unfold wrt
  by_cases ha : n % c ≤ i
  · obtain ⟨h3, h4⟩ := h1 ha
    rw [if_neg (by omega), if_pos (by omega), if_pos h4, h3, Nat.zero_add]
  · have h3 := h2 (by omega)
    by_cases hb : i < k - (c - n % c)
    · rw [if_pos (by omega), if_pos (by omega), h3, Nat.sub_zero]
    · rw [if_neg (by omega), if_neg (by omega), if_neg (by omega)]
end Go.Proofs.YbulkecmmFmt
