/-
  slices.Clone over []string, by contract.
-/
import Derived.Test.YbulkecmmFmtSl
import Derived.Maps.AppendAt
import Derived.Deep.AppendLies
import Derived.Deep.MidRow
set_option linter.unusedVariables false
set_option linter.unusedSimpArgs false
namespace Go.Proofs.YbulkecmmFmt
open Go.RowKit

theorem Ybaf.info9 : (Ybaf.prog.info? 9).map (fun i => (i.zero, i.size, i.bytes)) = some (some (.string ⟨#[]⟩), 1, 16) := by kernel_rfl

/-- A list of n strings as cells. -/
def strL (f : Nat → ByteArray) (n : Nat) : List Value := (List.range n).map fun i => .string (f i)
theorem length_strL (f : Nat → ByteArray) (n : Nat) : (strL f n).length = n := by simp [strL]
theorem strL_get {f : Nat → ByteArray} {n i : Nat} (hi : i < n) : (strL f n)[i]? = some (.string (f i)) := by simp [strL, hi]
theorem strL_one (f : Nat → ByteArray) (n : Nat) : ∀ u ∈ strL f n, u.oneCell' = true := by
  intro u hu
  obtain ⟨i, _, rfl⟩ := List.mem_map.1 hu
  rfl
theorem strL_mem {f : Nat → ByteArray} {n j : Nat} {u : Value} (h : (strL f n)[j]? = some u) : j < n ∧ u = .string (f j) := by
  have hj : j < n := by have := (List.getElem?_eq_some_iff.1 h).1; simpa [strL] using this
  rw [strL_get hj] at h
  exact ⟨hj, (Option.some.inj h).symm⟩

/-- A row of the call's own: n strings at the head of block g. -/
def Row9 (w : World) (g n : Nat) (f : Nat → ByteArray) : Prop := ∃ cur, w.heap[g]? = some (.cells cur 9 (0, 0)) ∧ ∀ i, i < n → cur[i]? = some (.string (f i))

theorem Row9.strs {w : World} {g n : Nat} {f : Nat → ByteArray} (h : Row9 w g n f) : Strs w (some ⟨g, 0, none⟩) n f := fun i hi => by
  obtain ⟨cur, hg, hc⟩ := h
  exact ⟨g, 0, rfl, by rw [Nat.zero_add, cell_of_row w g i cur 9 (0, 0) hg]; exact hc i hi⟩

theorem row9_of_owns {w : World} {base g n cap : Nat} {f : Nat → ByteArray} (h : w.ownsRow base 9 1 (.slice (some ⟨g, 0, none⟩) n cap) n (strL f n)) : Row9 w g n f := by
  rcases h.2 with ⟨h', _⟩ | ⟨g', cap', cur, h', _, hg, _, _, _, htake⟩
  · simp at h'
  · simp only [Value.slice.injEq, Option.some.injEq, Addr.mk.injEq, and_true, true_and] at h'
    obtain ⟨rfl, rfl⟩ := h'
    refine ⟨cur, hg, fun i hi => ?_⟩
    have := congrArg (·[i]?) htake
    simp only [Nat.mul_one, strL_get hi] at this
    rw [List.getElem?_take, if_pos hi] at this
    simpa using this

/-- What Clone leaves. -/
def Cloned (n : Nat) (f : Nat → ByteArray) (w : World) (e : Ending) (w' : World) : Prop :=
  ∃ g cap, e = .returned (.slice (some ⟨g, 0, none⟩) n cap) ∧ w.heap.size ≤ g ∧ g < w'.heap.size ∧ Row9 w' g n f ∧ Below w.heap.size w w'

set_option maxRecDepth 100000 in
set_option maxHeartbeats 400000 in
theorem clone_nil (n c : Nat) (w : World) :
    Calls Ybaf.prog 11 #[.slice none n c] w fun e w' => e = .returned (.slice none 0 0) ∧ w' = w := by
  have he := fun w => Lib.run_eql_slice_nil (P := Ybaf.prog) w 72 9 none n c 0 0 Ybaf.underlying72
  go_enter Ybaf.func11, Ybaf.ntmps11
  go_wp2
  go_ret
  exact ⟨rfl, rfl⟩

set_option maxRecDepth 100000 in
set_option maxHeartbeats 400000 in
theorem clone_some (ad : Addr) (n c : Nat) (f : Nat → ByteArray) (w : World) (hn : n * 16 ≤ 140737488355328) (hs : ∀ i, i < n → w.cell? (ad.add i) = some (.string (f i))) :
    Calls Ybaf.prog 11 #[.slice (some ad) n c] w (Cloned n f w) := by
  have he := fun w => Lib.run_eql_slice_nil (P := Ybaf.prog) w 72 9 (some ad) n c 0 0 Ybaf.underlying72
  obtain ⟨i0, hi, hz0, hz1, hz2⟩ := info_parts Ybaf.info9
  have hown0 : (w.alloc (.cells #[] 9)).ownsRow w.heap.size 9 1 (.slice (some ⟨w.heap.size, 0, none⟩) 0 0) 0 [] := World.ownsRow_made w #[] 0 (Nat.le_refl _) (by unfold maxLen; omega) rfl
  have hnews : ∀ j u, (strL f n)[j]? = some u → (w.alloc (.cells #[] 9)).cell? (ad.add j) = some u := fun j u hu => by
    obtain ⟨hj, rfl⟩ := strL_mem hu
    rw [World.cell?_alloc_lt _ _ _ (World.block_lt_of_cell? w _ (hs j hj))]
    exact hs j hj
  have hb0 : Below w.heap.size w (w.alloc (.cells #[] 9)) := (Below.refl _ _).alloc (Nat.le_refl _) _
  go_enter Ybaf.func11, Ybaf.ntmps11
  go_wp2_with (first | (at_builtin; refine wpList_append_own_at _ (by rfl) _ _ 72 (by rfl) w.heap.size 9 i0 (.string ⟨#[]⟩) 1 16 Ybaf.underlying72 hi hz0 hz1 hz2 rfl (by decide) _ 0 [] (by rfl) hown0 ad n c (strL f n) (by rfl) (by rw [length_strL]; omega) hnews (strL_one f n) (by unfold maxLen; omega) (by omega) (by simp) ?_; intro v' w1 hown' hgrow hnil hloc) | fail)
  have hex : ∃ g cap, v' = .slice (some ⟨g, 0, none⟩) n cap ∧ w.heap.size ≤ g := by
    rcases hown'.2 with ⟨h', _⟩ | ⟨g', cap', cur, h', hb, _⟩
    · exact absurd (hnil.1 h').1 (by simp)
    · exact ⟨g', cap', by rw [h', Nat.zero_add], hb⟩
  obtain ⟨g, cap, hv, hg⟩ := hex
  rw [hv, Nat.zero_add, List.nil_append] at hown'
  rw [hv]
  have hbel : Below w.heap.size w w1 := hb0.grown hgrow (by simp) (fun k hk => (hown0.lt k hk).1)
  have hr := row9_of_owns hown'
  have hlt : g < w1.heap.size := by obtain ⟨cur, h, _⟩ := hr; exact (Array.getElem?_eq_some_iff.1 h).1
  go_ret
  exact ⟨g, cap, rfl, hg, hlt, hr, hbel⟩
end Go.Proofs.YbulkecmmFmt
