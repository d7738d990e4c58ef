/-
  The graph's index: a map from names to places, as a list of names (the last first).
-/
import Derived.Test.YbulkecmmFmtGr
set_option linter.unusedVariables false
set_option linter.unusedSimpArgs false
namespace Go.Proofs.YbulkecmmFmt
open Go.RowKit Go.Maps Go.WideElems Go.WideMaps

theorem law9 : Keyed Ybaf.prog 9 := string_keyed Ybaf.underlying9
def kS (s : ByteArray) : Lit := .string s.data.toList
theorem kS_inj {a b : ByteArray} (h : kS a = kS b) : a = b := by
  simp only [kS, Lit.string.injEq] at h
  cases a; cases b
  congr 1
  exact Array.toList_inj.1 h
theorem kS_key (s : ByteArray) : WideAt.IsKeyLit (kS s) := trivial

theorem bytes_eq {a b : ByteArray} : (a.toList == b.toList) = true ↔ a = b := by
  rw [ByteArray.toList_eq, ByteArray.toList_eq]
  constructor
  · intro h
    exact kS_inj (congrArg Lit.string (by simpa using h))
  · intro h; rw [h]; simp
/-- Is s among them? -/
def memB (s : ByteArray) (r : List ByteArray) : Bool := r.any fun x => s.toList == x.toList
theorem memB_iff {s : ByteArray} {r : List ByteArray} : memB s r = true ↔ s ∈ r := by
  simp only [memB, List.any_eq_true, bytes_eq]
  constructor
  · rintro ⟨x, hx, rfl⟩; exact hx
  · intro h; exact ⟨s, h, rfl⟩
theorem memB_false {s : ByteArray} {r : List ByteArray} : memB s r = false ↔ s ∉ r := by
  rw [← memB_iff]; simp
theorem memB_cons {s x : ByteArray} {r : List ByteArray} : memB s (x :: r) = ((s.toList == x.toList) || memB s r) := rfl

/-- The index as a datum. -/
def idxD : List ByteArray → DataW Unit
  | [] => .map []
  | s :: r => (idxD r).put (kS s) (.lit (.int .i64 r.length))
theorem tidy_idx : ∀ r, Tidy (idxD r)
  | [] => tidy_empty
  | s :: r => (tidy_idx r).put (kS_key s) _
theorem has_idx (s : ByteArray) : ∀ r : List ByteArray, Maps.has (idxD r) (kS s) = memB s r
  | [] => by simp [idxD, has_eq, memB]
  | x :: r => by
    by_cases e : s = x
    · subst e; rw [idxD, has_put_same (tidy_idx r).isMap (kS_key s), memB_cons, bytes_eq.2 rfl]; rfl
    · rw [idxD, has_put_other (fun h => e (kS_inj h)), has_idx s r, memB_cons]
      cases hq : (s.toList == x.toList) with
      | true => exact absurd (bytes_eq.1 hq) e
      | false => rfl
theorem size_idx : ∀ r : List ByteArray, r.Nodup → Maps.size (idxD r) = r.length
  | [], _ => rfl
  | x :: r, h => by
    rw [List.nodup_cons] at h
    rw [idxD, size_put (tidy_idx r), has_idx, size_idx r h.2, memB_false.2 h.1]
    rfl
theorem at_idx {s : ByteArray} {k : Nat} (z : DataW Unit) : ∀ r : List ByteArray, r.Nodup → r.reverse[k]? = some s → (idxD r).atKey (kS s) z = .lit (.int .i64 k)
  | [], _, h => by simp at h
  | x :: r, hn, h => by
    rw [List.nodup_cons] at hn
    rw [List.reverse_cons] at h
    by_cases hk : k < r.reverse.length
    · rw [List.getElem?_append_left hk] at h
      have hs : s ∈ r := by simpa using List.mem_of_getElem? h
      have hne : kS s ≠ kS x := fun e => hn.1 (by rw [← kS_inj e]; exact hs)
      rw [idxD, atKey_put_other hne, at_idx z r hn.2 h]
    · rw [List.getElem?_append_right (by omega)] at h
      have hk0 : k - r.reverse.length = 0 := by
        have := (List.getElem?_eq_some_iff.1 h).1
        simp at this; simp; omega
      rw [hk0] at h
      simp at h
      subst h
      have : k = r.length := by simp at hk hk0; omega
      subst this
      rw [idxD, atKey_put_same (tidy_idx r).isMap (kS_key x)]

/-- The index in memory: nil while it is empty, or a map. -/
def Idx (w : World) (mo : Option Nat) (r : List ByteArray) : Prop :=
  (mo = none ∧ r = []) ∨ ∃ mb, mo = some mb ∧ w.ownsMap Ybaf.prog 9 (plainElem Ybaf.prog 3) mb r.length (idxD r)

theorem zero3 (w : World) : (zeroValue 3).run Ybaf.prog w = .ok (.int .i64 0) w := by kernel_rfl

/-- 'v, ok := g.index[s]'. -/
theorem Idx.look {w : World} {mo : Option Nat} {r : List ByteArray} (h : Idx w mo r) (s : ByteArray) (hs : s.size ≤ maxLen) :
    ∃ a : Int, (Instr.lookup 77 (.map mo) (.string s) true).run Ybaf.prog w = .ok (.tuple #[.int .i64 a, .bool (memB s r)]) w ∧ ∀ k : Nat, r.Nodup → r.reverse[k]? = some s → a = k := by
  rcases h with ⟨rfl, rfl⟩ | ⟨mb, rfl, ho⟩
  · exact ⟨0, by simpa [memB] using Maps.look_nil (P := Ybaf.prog) (w := w) true law9 Ybaf.underlying77 (zero3 w) (keyOf_string_mk Ybaf.underlying9 hs), fun k _ h => by simp at h⟩
  · obtain ⟨v, ps, hrun, hv⟩ := ho.look_ok law9 Ybaf.underlying77 (zero3 w) (plainElem_int Ybaf.underlying3 (by decide)) (keyOf_string_mk Ybaf.underlying9 hs)
    obtain ⟨a, rfl, hz, _⟩ := plainElem_int_inv Ybaf.underlying3 hv
    have hh : Maps.has (idxD r) (.string s.data.toList) = memB s r := has_idx s r
    rw [hh] at hrun
    refine ⟨a, hrun, fun k hn hk => ?_⟩
    have := at_idx (.lit (.int .i64 0)) r hn hk
    simp only [Prod.mk.injEq] at hz
    have h2 : (idxD r).atKey (.string s.data.toList) (.lit (.int .i64 0)) = .lit (.int .i64 k) := this
    rw [h2] at hz
    have := hz.1
    simp at this
    exact this.symm

theorem Idx.drew {w : World} {mo : Option Nat} {r : List ByteArray} (h : Idx w mo r) : Idx w.drew mo r := h
theorem Idx.drewN {w : World} {mo : Option Nat} {r : List ByteArray} (h : Idx w mo r) (q : Nat) : Idx (w.drewN q) mo r := h

/-- The index's block is as it was. -/
theorem Idx.same {w w' : World} {mo : Option Nat} {r : List ByteArray} (h : Idx w mo r) (hb : ∀ mb, mo = some mb → w'.heap[mb]? = w.heap[mb]?) : Idx w' mo r := by
  rcases h with ⟨rfl, rfl⟩ | ⟨mb, rfl, es, clock, hh, F, hs, hd⟩
  · exact .inl ⟨rfl, rfl⟩
  · exact .inr ⟨mb, rfl, es, clock, (hb mb rfl).trans hh, F, hs, hd⟩
theorem Idx.lt {w : World} {mb : Nat} {r : List ByteArray} (h : Idx w (some mb) r) : mb < w.heap.size := by
  rcases h with ⟨h, _⟩ | ⟨mb', e, es, clock, hh, _⟩
  · cases h
  · cases e; exact lt_of_heap hh
theorem Idx.not_cells {w : World} {mb : Nat} {r : List ByteArray} (h : Idx w (some mb) r) {b : Nat} {cs : Array Value} {t : TypeId} {fr : Nat × Nat} (hb : w.heap[b]? = some (.cells cs t fr)) : mb ≠ b := by
  rcases h with ⟨h, _⟩ | ⟨mb', e, es, clock, hh, _⟩
  · cases h
  · cases e; intro e; subst e; rw [hb] at hh; simp at hh

theorem Idx.len {w : World} {mo : Option Nat} {r : List ByteArray} (h : Idx w mo r) (hn : r.Nodup) (ty : TypeId) : (Builtin.len_ #[77] ty #[.map mo]).run Ybaf.prog w = .ok (.int .i64 r.length) w := by
  rcases h with ⟨rfl, rfl⟩ | ⟨mb, rfl, ho⟩
  · exact Maps.len_nil Ybaf.underlying77 ty
  · rw [← size_idx r hn]; exact ho.len Ybaf.underlying77 ty
end Go.Proofs.YbulkecmmFmt
