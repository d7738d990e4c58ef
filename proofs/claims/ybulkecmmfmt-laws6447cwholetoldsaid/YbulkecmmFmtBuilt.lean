/-
  The graph while the law lays its declarations in: what holds of memory, and the three appends.
-/
import Derived.Test.YbulkecmmFmtFn
set_option linter.unusedVariables false
set_option linter.unusedSimpArgs false
namespace Go.Proofs.YbulkecmmFmt
open Go.RowKit

/-- A row of another element type is another block. -/
theorem other_block {w : World} {base e sz : Nat} {v : Value} {n : Nat} {xs : List Value} (h : w.ownsRow base e sz v n xs) {k e' : Nat} {cur : Array Value} {fr : Nat × Nat} (hk : w.heap[k]? = some (.cells cur e' fr)) (hne : e' ≠ e) : some k ≠ v.ownBlock := by
  intro ek
  obtain ⟨_, ⟨rfl, _⟩ | ⟨g, cap, c2, rfl, _, hg, _⟩⟩ := h
  · cases ek
  · cases ek
    rw [hk] at hg
    cases hg
    exact hne rfl
theorem row_heap {w : World} {base e sz : Nat} {v : Value} {n : Nat} {xs : List Value} (h : w.ownsRow base e sz v n xs) {k : Nat} (hk : v.ownBlock = some k) : ∃ cur, w.heap[k]? = some (.cells cur e (0, 0)) := by
  obtain ⟨_, ⟨rfl, _⟩ | ⟨g, cap, c2, rfl, _, hg, _⟩⟩ := h
  · cases hk
  · cases hk; exact ⟨_, hg⟩

/-- A slice of strings that the call has made: nil, or at the head of a block of its own from base on. -/
def Own9 (w : World) (base : Nat) (da : Option Addr) (no : Option Nat) : Prop := ∀ x, da = some x → ∃ b, x = ⟨b, 0, none⟩ ∧ base ≤ b ∧ some b ≠ no ∧ ∃ cur, w.heap[b]? = some (.cells cur 9 (0, 0))

structure Built (G N : Nat) (P : Nat → Pd) (ns ks ds : List Nat) (l : List Dc) (vN vK vD : Value) (w0 w : World) : Prop where
  sz : w0.heap.size = G
  below : Below G w0 w
  gblk : w.heap[G]? = some (.cells (gCells 0 vD none none) 83 (0, 0))
  gv : w.heap[G + 1]? = some (.cells #[.pointer (some ⟨G, 0, none⟩)] 75 (0, 0))
  nv : w.heap[G + 2]? = some (.cells #[vN] 72 (0, 0))
  rN : w.ownsRow (G + 3) 9 1 vN ns.length (ns.map fun i => .string (P i).name)
  rK : w.ownsRow (G + 3) 3 1 vK ks.length (ks.map fun i => .int .i64 (i : Nat))
  rD : w.ownsRow (G + 3) 89 3 vD l.length (dcs l)
  len : l.length = ds.length
  decl : ∀ (k i : Nat), ds[k]? = some i → ∃ (da : Option Addr) (dc : Nat), l[k]? = some ((P i).name, Value.slice da (P i).n dc, fnv (P i).node) ∧ Strs w da (P i).n (P i).f ∧ Own9 w (G + 3) da vN.ownBlock
  nd : (ns.map fun i => (P i).name).Nodup
  lt : ∀ i ∈ ns, i < N

theorem Strs.heap {w w' : World} {a : Option Addr} {n : Nat} {f : Nat → ByteArray} (h : Strs w a n f) (hb : ∀ x, a = some x → w'.heap[x.block]? = w.heap[x.block]?) : Strs w' a n f := fun i hi => by
  obtain ⟨b, o, rfl, hc⟩ := h i hi
  exact ⟨b, o, rfl, (World.cell?_of_block (w := w) (a := ⟨b, o + i, none⟩) (hb ⟨b, o, none⟩ rfl)).trans hc⟩

/-- What a step may turn: no old block but 'row' (and new ones). -/
theorem Built.turn {G N : Nat} {P : Nat → Pd} {ns ks ds : List Nat} {l : List Dc} {vN vK vD : Value} {w0 w w' : World} (h : Built G N P ns ks ds l vN vK vD w0 w) (ho : w'.os = w.os) (ht : w'.tape = w.tape) (hp : w'.output = w.output) (hs : w.heap.size ≤ w'.heap.size)
    (hb : ∀ k, k < w.heap.size → w'.heap[k]? = w.heap[k]?) : Built G N P ns ks ds l vN vK vD w0 w' := by
  have hg := lt_of_heap h.gblk
  have hg1 := lt_of_heap h.gv
  have hg2 := lt_of_heap h.nv
  refine ⟨h.sz, h.below.trans ⟨ho, ht, hp, hs, fun k hk => hb k (by omega)⟩, (hb _ hg).trans h.gblk, (hb _ hg1).trans h.gv, (hb _ hg2).trans h.nv,
    owns_of_block h.rN fun k e => hb k (h.rN.lt k e).2, owns_of_block h.rK fun k e => hb k (h.rK.lt k e).2, owns_of_block h.rD fun k e => hb k (h.rD.lt k e).2, h.len, ?_, h.nd, h.lt⟩
  intro k i hk
  obtain ⟨da, dc, h1, h2, h3⟩ := h.decl k i hk
  refine ⟨da, dc, h1, h2.heap (fun x e => ?_), fun x e => ?_⟩
  · obtain ⟨b, rfl, _, _, cur, hc⟩ := h3 x e
    exact hb b (lt_of_heap hc)
  · obtain ⟨b, rfl, h4, h5, cur, hc⟩ := h3 x e
    exact ⟨b, rfl, h4, h5, cur, (hb b (lt_of_heap hc)).trans hc⟩
theorem Built.next {G N : Nat} {P : Nat → Pd} {ns ks ds : List Nat} {l : List Dc} {vN vK vD : Value} {w0 w w' : World} (h : Built G N P ns ks ds l vN vK vD w0 w) (hb : Below w.heap.size w w') : Built G N P ns ks ds l vN vK vD w0 w' :=
  h.turn hb.os hb.tape hb.output hb.size hb.block

/-- 'names = append(names, p.Name)'. -/
theorem Built.names {G N i g cap : Nat} {P : Nat → Pd} {ns ks ds : List Nat} {l : List Dc} {vN vK vD : Value} {w0 w w' : World} (h : Built G N P ns ks ds l vN vK vD w0 w) (hi : i < N) (hnew : (P i).name ∉ ns.map fun i => (P i).name)
    (hown : w'.ownsRow (G + 3) 9 1 (.slice (some ⟨g, 0, none⟩) (ns.length + 1) cap) (ns.length + 1) ((ns.map fun i => .string (P i).name) ++ [.string (P i).name])) (hgr : w.grownBy w' vN.ownBlock) (hor : vN.ownBlock = some g ∨ w.heap.size ≤ g) :
    Built G N P (ns ++ [i]) ks ds l (.slice (some ⟨g, 0, none⟩) (ns.length + 1) cap) vK vD w0 (w'.setCell ⟨G + 2, 0, none⟩ (.slice (some ⟨g, 0, none⟩) (ns.length + 1) cap)) := by
  have hg := lt_of_heap h.gblk
  have hg1 := lt_of_heap h.gv
  have hg2 := lt_of_heap h.nv
  have hnb : ∀ k, vN.ownBlock = some k → G + 3 ≤ k := fun k e => (h.rN.lt k e).1
  have low : ∀ k, k < G + 3 → w'.heap[k]? = w.heap[k]? := fun k hk => hgr.block k (by omega) (fun e => by have := hnb k e.symm; omega)
  have hgG : G + 3 ≤ g := by rcases hor with e | e; exact hnb g e; omega
  have far : ∀ k, k ≠ G + 2 → (w'.setCell ⟨G + 2, 0, none⟩ (.slice (some ⟨g, 0, none⟩) (ns.length + 1) cap)).heap[k]? = w'.heap[k]? := fun k hk => Below.heap_setCell _ _ _ _ (by exact hk)
  have keep : ∀ (k : Nat) (cur : Array Value) (e : Nat), w.heap[k]? = some (.cells cur e (0, 0)) → k ≠ G + 2 → some k ≠ vN.ownBlock → (w'.setCell ⟨G + 2, 0, none⟩ (.slice (some ⟨g, 0, none⟩) (ns.length + 1) cap)).heap[k]? = w.heap[k]? := fun k cur e hk h1 h2 => by
    rw [far k h1, hgr.block k (lt_of_heap hk) h2]
  refine ⟨h.sz, ?_, ?_, ?_, ?_, ?_, ?_, ?_, h.len, ?_, ?_, ?_⟩
  · refine h.below.trans ⟨hgr.os, hgr.tape, hgr.output, by simpa using hgr.size, fun k hk => ?_⟩
    rw [far k (by omega), low k (by omega)]
  · rw [far _ (by omega), low _ (by omega)]; exact h.gblk
  · rw [far _ (by omega), low _ (by omega)]; exact h.gv
  · exact heap_set ((low _ (by omega)).trans h.nv) _
  · rw [List.length_append, List.map_append]
    refine owns_of_block hown fun k e => ?_
    cases e
    exact far g (by omega)
  · refine owns_of_block h.rK fun k e => ?_
    obtain ⟨cur, hc⟩ := row_heap h.rK e
    have := (h.rK.lt k e).1
    exact keep k cur 3 hc (by omega) (other_block h.rN hc (by decide))
  · refine owns_of_block h.rD fun k e => ?_
    obtain ⟨cur, hc⟩ := row_heap h.rD e
    have := (h.rD.lt k e).1
    exact keep k cur 89 hc (by omega) (other_block h.rN hc (by decide))
  · intro k j hk
    obtain ⟨da, dc, h1, h2, h3⟩ := h.decl k j hk
    refine ⟨da, dc, h1, h2.heap (fun x e => ?_), fun x e => ?_⟩
    · obtain ⟨b, rfl, h4, h5, cur, hc⟩ := h3 x e
      exact keep b cur 9 hc (by omega) h5
    · obtain ⟨b, rfl, h4, h5, cur, hc⟩ := h3 x e
      refine ⟨b, rfl, h4, ?_, cur, (keep b cur 9 hc (by omega) h5).trans hc⟩
      intro e2
      cases e2
      rcases hor with e3 | e3
      · exact h5 e3.symm
      · have hbl := lt_of_heap hc; exact absurd e3 (Nat.not_le_of_lt hbl)
  · rw [List.map_append, List.nodup_append]
    refine ⟨h.nd, by simp, fun a ha b hb e => ?_⟩
    simp at hb
    subst hb
    subst e
    exact hnew ha
  · intro j hj
    rcases List.mem_append.1 hj with hj | hj
    · exact h.lt j hj
    · simp at hj; subst hj; exact hi

/-- 'kept = append(kept, i)'. -/
theorem Built.kept {G N i g cap : Nat} {P : Nat → Pd} {ns ks ds : List Nat} {l : List Dc} {vN vK vD : Value} {w0 w w' : World} (h : Built G N P ns ks ds l vN vK vD w0 w)
    (hown : w'.ownsRow (G + 3) 3 1 (.slice (some ⟨g, 0, none⟩) (ks.length + 1) cap) (ks.length + 1) ((ks.map fun i => .int .i64 (i : Nat)) ++ [.int .i64 (i : Nat)])) (hgr : w.grownBy w' vK.ownBlock) :
    Built G N P ns (ks ++ [i]) ds l vN (.slice (some ⟨g, 0, none⟩) (ks.length + 1) cap) vD w0 w' := by
  have hg := lt_of_heap h.gblk
  have hg1 := lt_of_heap h.gv
  have hg2 := lt_of_heap h.nv
  have hnb : ∀ k, vK.ownBlock = some k → G + 3 ≤ k := fun k e => (h.rK.lt k e).1
  have low : ∀ k, k < G + 3 → w'.heap[k]? = w.heap[k]? := fun k hk => hgr.block k (by omega) (fun e => by have := hnb k e.symm; omega)
  have keep : ∀ (k : Nat) (cur : Array Value) (e : Nat), w.heap[k]? = some (.cells cur e (0, 0)) → e ≠ 3 → w'.heap[k]? = w.heap[k]? := fun k cur e hk h1 => hgr.block k (lt_of_heap hk) (other_block h.rK hk h1)
  refine ⟨h.sz, h.below.trans ⟨hgr.os, hgr.tape, hgr.output, hgr.size, fun k hk => low k (by omega)⟩, (low _ (by omega)).trans h.gblk, (low _ (by omega)).trans h.gv, (low _ (by omega)).trans h.nv, ?_, ?_, ?_, h.len, ?_, h.nd, h.lt⟩
  · refine owns_of_block h.rN fun k e => ?_
    obtain ⟨cur, hc⟩ := row_heap h.rN e
    exact keep k cur 9 hc (by decide)
  · rw [List.length_append, List.map_append]; exact hown
  · refine owns_of_block h.rD fun k e => ?_
    obtain ⟨cur, hc⟩ := row_heap h.rD e
    exact keep k cur 89 hc (by decide)
  · intro k j hk
    obtain ⟨da, dc, h1, h2, h3⟩ := h.decl k j hk
    refine ⟨da, dc, h1, h2.heap (fun x e => ?_), fun x e => ?_⟩
    · obtain ⟨b, rfl, h4, h5, cur, hc⟩ := h3 x e
      exact keep b cur 9 hc (by decide)
    · obtain ⟨b, rfl, h4, h5, cur, hc⟩ := h3 x e
      exact ⟨b, rfl, h4, h5, cur, (keep b cur 9 hc (by decide)).trans hc⟩

/-- 'g.decls = append(g.decls, d)'. -/
theorem Built.decls {G N i g cap dc : Nat} {da : Option Addr} {P : Nat → Pd} {ns ks ds : List Nat} {l : List Dc} {vN vK vD : Value} {w0 w w' : World} (h : Built G N P ns ks ds l vN vK vD w0 w) (hst : Strs w da (P i).n (P i).f) (ho9 : Own9 w (G + 3) da vN.ownBlock)
    (hown : w'.ownsRow (G + 3) 89 3 (.slice (some ⟨g, 0, none⟩) (l.length + 1) cap) (l.length + 1) (dcs l ++ [.string (P i).name, .slice da (P i).n dc, fnv (P i).node])) (hgr : w.grownBy w' vD.ownBlock) (hor : vD.ownBlock = some g ∨ w.heap.size ≤ g) :
    Built G N P ns ks (ds ++ [i]) (l ++ [((P i).name, Value.slice da (P i).n dc, fnv (P i).node)]) vN vK (.slice (some ⟨g, 0, none⟩) (l.length + 1) cap) w0 (w'.setCell ⟨G, 2, none⟩ (.slice (some ⟨g, 0, none⟩) (l.length + 1) cap)) := by
  have hg := lt_of_heap h.gblk
  have hg1 := lt_of_heap h.gv
  have hg2 := lt_of_heap h.nv
  have hnb : ∀ k, vD.ownBlock = some k → G + 3 ≤ k := fun k e => (h.rD.lt k e).1
  have low : ∀ k, k < G + 3 → w'.heap[k]? = w.heap[k]? := fun k hk => hgr.block k (by omega) (fun e => by have := hnb k e.symm; omega)
  have hgG : G + 3 ≤ g := by rcases hor with e | e; exact hnb g e; omega
  have far : ∀ k, k ≠ G → (w'.setCell ⟨G, 2, none⟩ (.slice (some ⟨g, 0, none⟩) (l.length + 1) cap)).heap[k]? = w'.heap[k]? := fun k hk => Below.heap_setCell _ _ _ _ (by exact hk)
  have keep : ∀ (k : Nat) (cur : Array Value) (e : Nat), w.heap[k]? = some (.cells cur e (0, 0)) → k ≠ G → e ≠ 89 → (w'.setCell ⟨G, 2, none⟩ (.slice (some ⟨g, 0, none⟩) (l.length + 1) cap)).heap[k]? = w.heap[k]? := fun k cur e hk h1 h2 => by
    rw [far k h1, hgr.block k (lt_of_heap hk) (other_block h.rD hk h2)]
  have kst : ∀ {da : Option Addr} {n : Nat} {f : Nat → ByteArray}, Strs w da n f → Own9 w (G + 3) da vN.ownBlock → Strs (w'.setCell ⟨G, 2, none⟩ (.slice (some ⟨g, 0, none⟩) (l.length + 1) cap)) da n f ∧ Own9 (w'.setCell ⟨G, 2, none⟩ (.slice (some ⟨g, 0, none⟩) (l.length + 1) cap)) (G + 3) da vN.ownBlock := by
    intro da n f h2 h3
    refine ⟨h2.heap (fun x e => ?_), fun x e => ?_⟩
    · obtain ⟨b, rfl, h4, h5, cur, hc⟩ := h3 x e
      exact keep b cur 9 hc (by omega) (by decide)
    · obtain ⟨b, rfl, h4, h5, cur, hc⟩ := h3 x e
      exact ⟨b, rfl, h4, h5, cur, (keep b cur 9 hc (by omega) (by decide)).trans hc⟩
  refine ⟨h.sz, ?_, ?_, ?_, ?_, ?_, ?_, ?_, by simp [h.len], ?_, h.nd, h.lt⟩
  · refine h.below.trans ⟨hgr.os, hgr.tape, hgr.output, by simpa using hgr.size, fun k hk => ?_⟩
    rw [far k (by omega), low k (by omega)]
  · exact heap_set ((low _ (by omega)).trans h.gblk) _
  · rw [far _ (by omega), low _ (by omega)]; exact h.gv
  · rw [far _ (by omega), low _ (by omega)]; exact h.nv
  · refine owns_of_block h.rN fun k e => ?_
    obtain ⟨cur, hc⟩ := row_heap h.rN e
    have := (h.rN.lt k e).1
    exact keep k cur 9 hc (by omega) (by decide)
  · refine owns_of_block h.rK fun k e => ?_
    obtain ⟨cur, hc⟩ := row_heap h.rK e
    have := (h.rK.lt k e).1
    exact keep k cur 3 hc (by omega) (by decide)
  · rw [dcs_snoc, List.length_append]
    refine owns_of_block hown fun k e => ?_
    cases e
    exact far g (by omega)
  · intro k j hk
    by_cases hkl : k < ds.length
    · rw [List.getElem?_append_left hkl] at hk
      obtain ⟨da', dc', h1, h2, h3⟩ := h.decl k j hk
      obtain ⟨h4, h5⟩ := kst h2 h3
      exact ⟨da', dc', by rw [List.getElem?_append_left (by rw [h.len]; exact hkl)]; exact h1, h4, h5⟩
    · rw [List.getElem?_append_right (by omega)] at hk
      have hz : k - ds.length = 0 := by have := (List.getElem?_eq_some_iff.1 hk).1; simp at this; omega
      rw [hz] at hk
      simp at hk
      subst hk
      obtain ⟨h4, h5⟩ := kst hst ho9
      exact ⟨da, dc, by rw [List.getElem?_append_right (by rw [h.len]; omega), h.len, hz]; rfl, h4, h5⟩
end Go.Proofs.YbulkecmmFmt
