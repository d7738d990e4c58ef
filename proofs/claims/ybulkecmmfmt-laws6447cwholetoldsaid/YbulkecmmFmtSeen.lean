/-
  The set of the deps that declare has seen; what holds along its loop.
-/
import Derived.Test.YbulkecmmFmtDec2
import Derived.Maps.Own
set_option linter.unusedVariables false
set_option linter.unusedSimpArgs false
namespace Go.Proofs.YbulkecmmFmt
open Go.RowKit Go.Maps Go.WideElems Go.WideMaps

def seenD : List ByteArray → DataW Unit
  | [] => .map []
  | s :: r => (seenD r).put (kS s) (.lit (.bool true))
theorem tidy_seen : ∀ r, Tidy (seenD r)
  | [] => tidy_empty
  | s :: r => (tidy_seen r).put (kS_key s) _
theorem at_seen (s : ByteArray) : ∀ r : List ByteArray, (seenD r).atKey (kS s) (.lit (.bool false)) = .lit (.bool (memB s r))
  | [] => rfl
  | x :: r => by
    by_cases e : s = x
    · subst e; rw [seenD, atKey_put_same (tidy_seen r).isMap (kS_key s), memB_cons, bytes_eq.2 rfl]; rfl
    · rw [seenD, atKey_put_other (fun h => e (kS_inj h)), at_seen s r, memB_cons]
      cases hq : (s.toList == x.toList) with
      | true => exact absurd (bytes_eq.1 hq) e
      | false => rfl
def Seen (w : World) (mb : Nat) (r : List ByteArray) : Prop := w.ownsMap Ybaf.prog 9 (plainElem Ybaf.prog 4) mb r.length (seenD r)
theorem zero4 (w : World) : (zeroValue 4).run Ybaf.prog w = .ok (.bool false) w := by kernel_rfl
theorem plain_bool_inv {v : Value} {x : Bool} {ps : List MemPlace} (h : plainElem (H := Unit) Ybaf.prog 4 v = some (.lit (.bool x), ps)) : v = .bool x := by
  have hu := Ybaf.underlying4
  generalize Ybaf.prog = P at h hu
  unfold plainElem at h
  rw [hu] at h
  cases v <;> simp at h
  rw [h.1]
theorem Seen.look {w : World} {mb : Nat} {r : List ByteArray} (h : Seen w mb r) (s : ByteArray) (hs : s.size ≤ maxLen) : (Instr.lookup 124 (.map (some mb)) (.string s) false).run Ybaf.prog w = .ok (.bool (memB s r)) w := by
  obtain ⟨v, ps, hrun, hv⟩ := World.ownsMap.lookup h law9 Ybaf.underlying124 (zero4 w) (plainElem_bool Ybaf.underlying4 false) (keyOf_string_mk Ybaf.underlying9 hs)
  have he : (seenD r).atKey (.string s.data.toList) (.lit (.bool false)) = .lit (.bool (memB s r)) := at_seen s r
  rw [he] at hv
  rw [plain_bool_inv hv] at hrun
  exact hrun
theorem Seen.put {w : World} {mb : Nat} {r : List ByteArray} (h : Seen w mb r) (s : ByteArray) (hs : s.size ≤ maxLen) (hr : r.length < maxLen) :
    ∃ w', (Instr.mapUpdate 124 (.map (some mb)) (.string s) (.bool true)).run Ybaf.prog w = .ok () w' ∧ Seen w' mb (s :: r) ∧ w.grownBy w' (some mb) :=
  World.ownsMap.update h law9 Ybaf.underlying124 hr (keyOf_string_mk Ybaf.underlying9 hs) (plainElem_bool Ybaf.underlying4 true)

/-- 'g.index[s] = len(g.decls)'. -/
theorem Idx.put {w : World} {mb : Nat} {r : List ByteArray} (h : Idx w (some mb) r) (s : ByteArray) (hs : s.size ≤ maxLen) (hr : r.length < maxLen) :
    ∃ w', (Instr.mapUpdate 77 (.map (some mb)) (.string s) (.int .i64 r.length)).run Ybaf.prog w = .ok () w' ∧ Idx w' (some mb) (s :: r) ∧ w.grownBy w' (some mb) := by
  rcases h with ⟨h, _⟩ | ⟨mb', e, ho⟩
  · cases h
  · cases e
    have hwf : (Lit.int .i64 (r.length : Int)).wf = true := by
      unfold maxLen at hr
      simp [Lit.wf, IntKind.min, IntKind.max, IntKind.signed, IntKind.bits]; omega
    obtain ⟨w', h1, h2, h3⟩ := World.ownsMap.update ho law9 Ybaf.underlying77 hr (keyOf_string_mk Ybaf.underlying9 hs) (plainElem_int Ybaf.underlying3 hwf)
    exact ⟨w', h1, .inr ⟨mb, rfl, h2⟩, h3⟩
theorem Idx.made (w : World) : Idx (w.alloc (.map #[] 0)) (some w.heap.size) [] := .inr ⟨_, rfl, World.ownsMap_made w _ _ _⟩

/-- The first k, the last first. -/
def revL (f : Nat → ByteArray) : Nat → List ByteArray
  | 0 => []
  | k + 1 => f k :: revL f k
theorem length_revL (f : Nat → ByteArray) : ∀ k, (revL f k).length = k
  | 0 => rfl
  | k + 1 => by simp [revL, length_revL f k]
theorem mem_revL {f : Nat → ByteArray} {s : ByteArray} : ∀ {k}, s ∈ revL f k ↔ ∃ j, j < k ∧ f j = s
  | 0 => by simp [revL]
  | k + 1 => by
    rw [revL, List.mem_cons, mem_revL]
    constructor
    · rintro (rfl | ⟨j, hj, rfl⟩)
      · exact ⟨k, by omega, rfl⟩
      · exact ⟨j, by omega, rfl⟩
    · rintro ⟨j, hj, rfl⟩
      by_cases e : j = k
      · subst e; exact .inl rfl
      · exact .inr ⟨j, by omega, rfl⟩

theorem Held.grown {g : Nat} {vD : Value} {mo : Option Nat} {po : Option Addr} {w w1 w2 : World} {row : Option Nat} (h : Held g vD mo po w w1) (hg : w1.grownBy w2 row) (h1 : ∀ k, row = some k → w.heap.size ≤ k) (hgl : g < w.heap.size) : Held g vD mo po w w2 :=
  ⟨(hg.block g (Nat.lt_trans hgl h.size) (fun e => by have := h1 g e.symm; omega)).trans h.blk,
    fun k hk hne => (hg.block k (Nat.lt_trans hk h.size) (fun e => by have := h1 k e.symm; omega)).trans (h.oth k hk hne),
    hg.os.trans h.os, hg.tape.trans h.tape, hg.output.trans h.output, Nat.lt_of_lt_of_le h.size hg.size⟩

theorem owns_of_block {w w' : World} {base e sz : Nat} {v : Value} {n : Nat} {xs : List Value} (h : w.ownsRow base e sz v n xs) (hb : ∀ k, v.ownBlock = some k → w'.heap[k]? = w.heap[k]?) : w'.ownsRow base e sz v n xs := by
  obtain ⟨hl, h | ⟨g, cap, cur, rfl, h1, h2, r⟩⟩ := h
  · exact ⟨hl, .inl h⟩
  · exact ⟨hl, .inr ⟨g, cap, cur, rfl, h1, (hb g rfl).trans h2, r⟩⟩
theorem owns_slice {w : World} {base e sz : Nat} {v : Value} {n : Nat} {xs : List Value} (h : w.ownsRow base e sz v n xs) : ∃ a c, v = .slice a n c := by
  obtain ⟨_, ⟨rfl, rfl⟩ | ⟨g, cap, cur, rfl, _⟩⟩ := h
  · exact ⟨none, 0, rfl⟩
  · exact ⟨_, cap, rfl⟩
end Go.Proofs.YbulkecmmFmt
