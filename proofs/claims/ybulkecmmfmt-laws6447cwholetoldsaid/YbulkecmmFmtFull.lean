/-
  The graph behind the law's setup: its declarations, its index, its plan.
-/
import Derived.Test.YbulkecmmFmtCl
set_option linter.unusedVariables false
set_option linter.unusedSimpArgs false
namespace Go.Proofs.YbulkecmmFmt
open Go.RowKit Go.Extern.Stop Go.Stop Go.Extern

/-- The names that stand in the row, as a function. -/
def nmF (P : Nat → Pd) (ns : List Nat) (k : Nat) : ByteArray := (P (ns.getD k 0)).name
theorem strs_names {w : World} {base : Nat} {P : Nat → Pd} {ns : List Nat} {va : Option Addr} {vc : Nat} (h : w.ownsRow base 9 1 (.slice va ns.length vc) ns.length (ns.map fun i => .string (P i).name)) : Strs w va ns.length (nmF P ns) := fun i hi => by
  have h' := h
  obtain ⟨_, ⟨hv, h0⟩ | ⟨g, cap, cur, hv, _, hg, _, _, _, ht⟩⟩ := h'
  · omega
  · cases hv
    refine ⟨g, 0, rfl, ?_⟩
    have := h.cells (g := g) rfl i (.string (nmF P ns i)) (by rw [List.getElem?_map, List.getElem?_eq_getElem hi]; simp [nmF, List.getD_eq_getElem?_getD, List.getElem?_eq_getElem hi])
    rwa [Addr.add_mid] at this
theorem hasB_names {P : Nat → Pd} {ns : List Nat} {v : ByteArray} : hasB (nmF P ns) ns.length v = true ↔ v ∈ ns.map fun i => (P i).name := by
  rw [hasB, List.any_eq_true]
  constructor
  · rintro ⟨k, hk, he⟩
    rw [List.mem_range] at hk
    rw [bytes_eq.1 he]
    refine List.mem_map.2 ⟨ns[k], List.getElem_mem _, ?_⟩
    simp [nmF, List.getD_eq_getElem?_getD, List.getElem?_eq_getElem hk]
  · intro h
    obtain ⟨i, hi, rfl⟩ := List.mem_map.1 h
    obtain ⟨k, hk, rfl⟩ := List.mem_iff_getElem.1 hi
    exact ⟨k, List.mem_range.2 hk, bytes_eq.2 (by simp [nmF, List.getD_eq_getElem?_getD, List.getElem?_eq_getElem hk])⟩

/-- The names, the last first. -/
def rvN (P : Nat → Pd) (ns : List Nat) : List ByteArray := (ns.map fun i => (P i).name).reverse
theorem revL_names (P : Nat → Pd) (ns : List Nat) : ∀ k, k ≤ ns.length → revL (nmF P ns) k = ((ns.map fun i => (P i).name).take k).reverse
  | 0, _ => by simp [revL]
  | k + 1, hk => by
    rw [revL, revL_names P ns k (by omega), List.take_add_one, List.getElem?_map, List.getElem?_eq_getElem (by omega)]
    simp [nmF, List.getD_eq_getElem?_getD, List.getElem?_eq_getElem (show k < ns.length by omega)]
theorem revL_all (P : Nat → Pd) (ns : List Nat) : revL (nmF P ns) ns.length = rvN P ns := by
  rw [revL_names P ns _ (Nat.le_refl _), rvN, List.take_of_length_le (by simp)]
theorem memB_rvN {P : Nat → Pd} {ns : List Nat} {v : ByteArray} : memB v (rvN P ns) = hasB (nmF P ns) ns.length v := by
  rw [Bool.eq_iff_iff, memB_iff, hasB_names, rvN, List.mem_reverse]
theorem length_rvN (P : Nat → Pd) (ns : List Nat) : (rvN P ns).length = ns.length := by simp [rvN]

theorem dcs_get {d : Dc} : ∀ {l : List Dc} {k : Nat}, l[k]? = some d → (dcs l)[k * 3]? = some (.string d.1) ∧ (dcs l)[k * 3 + 1]? = some d.2.1 ∧ (dcs l)[k * 3 + 2]? = some d.2.2
  | [], k, h => by simp at h
  | x :: l, 0, h => by
    simp at h; subst h
    exact ⟨rfl, rfl, rfl⟩
  | x :: l, k + 1, h => by
    have h' : l[k]? = some d := by simpa using h
    obtain ⟨h1, h2, h3⟩ := dcs_get h'
    have e : dcs (x :: l) = [.string x.1, x.2.1, x.2.2] ++ dcs l := rfl
    have g : ∀ q, (dcs (x :: l))[(k + 1) * 3 + q]? = (dcs l)[k * 3 + q]? := fun q => by
      rw [e, List.getElem?_append_right (by simp; omega)]
      congr 1
      simp; omega
    exact ⟨(g 0).trans h1, (g 1).trans h2, (g 2).trans h3⟩

structure Full (G N : Nat) (P : Nat → Pd) (ns : List Nat) (l : List Dc) (vN vK vD : Value) (mo : Option Nat) (po : Option Addr) (r : List ByteArray) (w0 w : World) : Prop where
  sz : w0.heap.size = G
  below : Below G w0 w
  gblk : w.heap[G]? = some (.cells (gCells 0 vD mo po) 83 (0, 0))
  gv : w.heap[G + 1]? = some (.cells #[.pointer (some ⟨G, 0, none⟩)] 75 (0, 0))
  nv : w.heap[G + 2]? = some (.cells #[vN] 72 (0, 0))
  rN : w.ownsRow (G + 3) 9 1 vN ns.length (ns.map fun i => .string (P i).name)
  rK : w.ownsRow (G + 3) 3 1 vK ns.length (ns.map fun i => .int .i64 (i : Nat))
  rD : w.ownsRow (G + 3) 89 3 vD l.length (dcs l)
  decl : ∀ (k i : Nat), ns[k]? = some i → ∃ (da : Option Addr) (dc : Nat), l[k]? = some ((P i).name, Value.slice da (P i).n dc, fnv (P i).node) ∧ Strs w da (P i).n (P i).f ∧ Own9 w (G + 3) da vN.ownBlock
  nd : (ns.map fun i => (P i).name).Nodup
  lt : ∀ i ∈ ns, i < N
  idx : Idx w mo r
  far : ∀ mb, mo = some mb → G + 3 ≤ mb

theorem Full.turn {G N : Nat} {P : Nat → Pd} {ns : List Nat} {l l' : List Dc} {vN vK vD vD' : Value} {mo mo' : Option Nat} {po po' : Option Addr} {r r' : List ByteArray} {w0 w w' : World} (h : Full G N P ns l vN vK vD mo po r w0 w)
    (ho : w'.os = w.os) (ht : w'.tape = w.tape) (hp : w'.output = w.output) (hs : w.heap.size ≤ w'.heap.size)
    (hg' : w'.heap[G]? = some (.cells (gCells 0 vD' mo' po') 83 (0, 0))) (hk : ∀ k, k < w.heap.size → k ≠ G → some k ≠ mo → some k ≠ vD.ownBlock → w'.heap[k]? = w.heap[k]?)
    (hrow : w'.ownsRow (G + 3) 89 3 vD' l'.length (dcs l')) (hpre : ∀ (k : Nat) (x : Dc), l[k]? = some x → l'[k]? = some x) (hidx : Idx w' mo' r') (hfar : ∀ mb, mo' = some mb → G + 3 ≤ mb) :
    Full G N P ns l' vN vK vD' mo' po' r' w0 w' := by
  have hg := lt_of_heap h.gblk
  have hg1 := lt_of_heap h.gv
  have hg2 := lt_of_heap h.nv
  have low : ∀ k, k < G + 3 → k ≠ G → w'.heap[k]? = w.heap[k]? := fun k hk1 hk2 => hk k (by omega) hk2 (fun e => by have := h.far k e.symm; omega) (fun e => by have := (h.rD.lt k e.symm).1; omega)
  have keep : ∀ (k : Nat) (cur : Array Value) (e : Nat), w.heap[k]? = some (.cells cur e (0, 0)) → G + 3 ≤ k → e ≠ 89 → w'.heap[k]? = w.heap[k]? := fun k cur e hc h1 h2 =>
    hk k (lt_of_heap hc) (by omega) (fun e2 => by have h3 := h.idx; rw [← e2] at h3; exact h3.not_cells hc rfl) (other_block h.rD hc h2)
  refine ⟨h.sz, h.below.trans ⟨ho, ht, hp, hs, fun k hk => low k (by omega) (by omega)⟩, hg', (low _ (by omega) (by omega)).trans h.gv, (low _ (by omega) (by omega)).trans h.nv, ?_, ?_, hrow, ?_, h.nd, h.lt, hidx, hfar⟩
  · refine owns_of_block h.rN fun k e => ?_
    obtain ⟨cur, hc⟩ := row_heap h.rN e
    exact keep k cur 9 hc (h.rN.lt k e).1 (by decide)
  · refine owns_of_block h.rK fun k e => ?_
    obtain ⟨cur, hc⟩ := row_heap h.rK e
    exact keep k cur 3 hc (h.rK.lt k e).1 (by decide)
  · intro k i hki
    obtain ⟨da, dc, h1, h2, h3⟩ := h.decl k i hki
    refine ⟨da, dc, hpre _ _ h1, h2.heap (fun x e => ?_), fun x e => ?_⟩
    · obtain ⟨b, rfl, h4, h5, cur, hc⟩ := h3 x e
      exact keep b cur 9 hc h4 (by decide)
    · obtain ⟨b, rfl, h4, h5, cur, hc⟩ := h3 x e
      exact ⟨b, rfl, h4, h5, cur, (keep b cur 9 hc h4 (by decide)).trans hc⟩

theorem Full.next {G N : Nat} {P : Nat → Pd} {ns : List Nat} {l : List Dc} {vN vK vD : Value} {mo : Option Nat} {po : Option Addr} {r : List ByteArray} {w0 w w' : World} (h : Full G N P ns l vN vK vD mo po r w0 w) (hb : Below w.heap.size w w') : Full G N P ns l vN vK vD mo po r w0 w' :=
  h.turn hb.os hb.tape hb.output hb.size ((hb.block _ (lt_of_heap h.gblk)).trans h.gblk) (fun k hk _ _ _ => hb.block k hk) (owns_of_block h.rD fun k e => hb.block k (h.rD.lt k e).2) (fun _ _ h => h) (h.idx.same fun mb e => hb.block mb (by have := h.idx; rw [e] at this; exact this.lt)) h.far

/-- No declaration was laid in: the index stays nil. -/
theorem Built.full {G N : Nat} {P : Nat → Pd} {ns : List Nat} {l : List Dc} {vN vK vD : Value} {w0 w : World} (h : Built G N P ns ns ns l vN vK vD w0 w) : Full G N P ns l vN vK vD none none [] w0 w :=
  ⟨h.sz, h.below, h.gblk, h.gv, h.nv, h.rN, h.rK, h.rD, h.decl, h.nd, h.lt, .inl ⟨rfl, rfl⟩, fun _ e => by cases e⟩

/-- 'g.index = make(map[string]int, len(names))'. -/
theorem Full.made {G N : Nat} {P : Nat → Pd} {ns : List Nat} {l : List Dc} {vN vK vD : Value} {po : Option Addr} {r : List ByteArray} {w0 w : World} (h : Full G N P ns l vN vK vD none po r w0 w) :
    Full G N P ns l vN vK vD (some w.heap.size) po [] w0 ((w.setCell ⟨G, 3, none⟩ (.map (some w.heap.size))).alloc (.map #[] 0)) := by
  have hz : (w.setCell ⟨G, 3, none⟩ (.map (some w.heap.size))).heap.size = w.heap.size := by simp
  have hg2 := lt_of_heap h.nv
  have hal : ∀ k, k < w.heap.size → ((w.setCell ⟨G, 3, none⟩ (.map (some w.heap.size))).alloc (.map #[] 0)).heap[k]? = (w.setCell ⟨G, 3, none⟩ (.map (some w.heap.size))).heap[k]? := fun k hk => Below.heap_alloc _ _ _ (by omega)
  have oth : ∀ k, k < w.heap.size → k ≠ G → ((w.setCell ⟨G, 3, none⟩ (.map (some w.heap.size))).alloc (.map #[] 0)).heap[k]? = w.heap[k]? := fun k hk hne => (hal k hk).trans (Below.heap_setCell _ _ _ _ (by exact hne))
  refine h.turn rfl rfl rfl (by simp) ((hal _ (by omega)).trans (heap_set h.gblk _)) (fun k hk h1 _ _ => oth k hk h1) (owns_of_block h.rD fun k e => oth k (h.rD.lt k e).2 (by have := (h.rD.lt k e).1; omega)) (fun _ _ h => h) ?_ (fun mb e => by cases e; exact hg2)
  have := Idx.made (w.setCell ⟨G, 3, none⟩ (.map (some w.heap.size)))
  rwa [hz] at this

/-- 'g.index[n] = i'. -/
theorem Full.put {G N mb : Nat} {P : Nat → Pd} {ns : List Nat} {l : List Dc} {vN vK vD : Value} {po : Option Addr} {r r' : List ByteArray} {w0 w w' : World} (h : Full G N P ns l vN vK vD (some mb) po r w0 w) (hi : Idx w' (some mb) r') (hgr : w.grownBy w' (some mb)) :
    Full G N P ns l vN vK vD (some mb) po r' w0 w' := by
  have hf := h.far mb rfl
  refine h.turn hgr.os hgr.tape hgr.output hgr.size ((hgr.block _ (lt_of_heap h.gblk) (fun e => by cases e; omega)).trans h.gblk) (fun k hk _ h2 _ => hgr.block k hk h2) (owns_of_block h.rD fun k e => ?_) (fun _ _ h => h) hi h.far
  obtain ⟨cur, hc⟩ := row_heap h.rD e
  exact hgr.block k (lt_of_heap hc) (fun e2 => by cases e2; exact h.idx.not_cells hc rfl)

/-- 'g.plan.Store(&Plan{})'. -/
theorem Full.plan {G N : Nat} {P : Nat → Pd} {ns : List Nat} {l : List Dc} {vN vK vD : Value} {mo : Option Nat} {po : Option Addr} {r : List ByteArray} {w0 w : World} (h : Full G N P ns l vN vK vD mo po r w0 w) (o : Obj) (p : Option Addr) :
    Full G N P ns l vN vK vD mo p r w0 ((w.alloc o).setCell ⟨G, 4, none⟩ (.pointer p)) := by
  have h1 := h.next ((Below.refl _ _).alloc (Nat.le_refl _) o)
  have oth : ∀ k, k ≠ G → ((w.alloc o).setCell ⟨G, 4, none⟩ (.pointer p)).heap[k]? = (w.alloc o).heap[k]? := fun k hk => Below.heap_setCell _ _ _ _ (by exact hk)
  refine h1.turn rfl rfl rfl (by simp) (heap_set h1.gblk _) (fun k _ hk _ _ => oth k hk) (owns_of_block h1.rD fun k e => oth k (by have := (h1.rD.lt k e).1; omega)) (fun _ _ h => h) (h1.idx.same fun mb e => oth mb (by have := h.far mb e; omega)) h.far

/-- Behind a declare that adds. -/
theorem Full.added {G N mb : Nat} {P : Nat → Pd} {ns : List Nat} {l : List Dc} {vN vK vD vD' : Value} {mo : Option Nat} {r : List ByteArray} {w0 w w' : World} {d : Dc} (h : Full G N P ns l vN vK vD mo none r w0 w) (ha : Added (G + 3) G l d vD mo r vD' mb w w') :
    Full G N P ns (l ++ [d]) vN vK vD' (some mb) none (d.1 :: r) w0 w' := by
  have hg2 := lt_of_heap h.nv
  refine h.turn ha.os ha.tape ha.output ha.size ha.blk ha.kept (by rw [List.length_append]; exact ha.row) (fun k x e => ?_) ha.idx (fun m e => ?_)
  · rw [List.getElem?_append_left (List.getElem?_eq_some_iff.1 e).1]; exact e
  · cases e
    rcases ha.far with e | e
    · exact h.far _ e
    · omega

theorem Full.cg {G N : Nat} {P : Nat → Pd} {ns : List Nat} {l : List Dc} {vN vK vD : Value} {mo : Option Nat} {po : Option Addr} {r : List ByteArray} {w0 w : World} (h : Full G N P ns l vN vK vD mo po r w0 w) : w.cell? ⟨G + 1, 0, none⟩ = some (.pointer (some ⟨G, 0, none⟩)) := by rw [cell_of_row _ _ _ _ _ _ h.gv]; rfl
theorem Full.cn {G N : Nat} {P : Nat → Pd} {ns : List Nat} {l : List Dc} {vN vK vD : Value} {mo : Option Nat} {po : Option Addr} {r : List ByteArray} {w0 w : World} (h : Full G N P ns l vN vK vD mo po r w0 w) : w.cell? ⟨G + 2, 0, none⟩ = some vN := by rw [cell_of_row _ _ _ _ _ _ h.nv]; rfl
theorem Full.c2 {G N : Nat} {P : Nat → Pd} {ns : List Nat} {l : List Dc} {vN vK vD : Value} {mo : Option Nat} {po : Option Addr} {r : List ByteArray} {w0 w : World} (h : Full G N P ns l vN vK vD mo po r w0 w) : w.cell? ⟨G, 2, none⟩ = some vD := by rw [cell_of_row _ _ _ _ _ _ h.gblk]; rfl
theorem Full.c3 {G N : Nat} {P : Nat → Pd} {ns : List Nat} {l : List Dc} {vN vK vD : Value} {mo : Option Nat} {po : Option Addr} {r : List ByteArray} {w0 w : World} (h : Full G N P ns l vN vK vD mo po r w0 w) : w.cell? ⟨G, 3, none⟩ = some (.map mo) := by rw [cell_of_row _ _ _ _ _ _ h.gblk]; rfl
theorem Full.c4 {G N : Nat} {P : Nat → Pd} {ns : List Nat} {l : List Dc} {vN vK vD : Value} {mo : Option Nat} {po : Option Addr} {r : List ByteArray} {w0 w : World} (h : Full G N P ns l vN vK vD mo po r w0 w) : w.cell? ⟨G, 4, none⟩ = some (.pointer po) := by rw [cell_of_row _ _ _ _ _ _ h.gblk]; rfl
theorem Full.fz {G N : Nat} {P : Nat → Pd} {ns : List Nat} {l : List Dc} {vN vK vD : Value} {mo : Option Nat} {po : Option Addr} {r : List ByteArray} {w0 w : World} (h : Full G N P ns l vN vK vD mo po r w0 w) (o : Nat) : w.frozen? ⟨G, o, none⟩ = false := frozen_of_row _ _ _ _ _ h.gblk

theorem Full.laid {G N vc kc L : Nat} {va ka : Option Addr} {P : Nat → Pd} {ns : List Nat} {l : List Dc} {vN : Value} {mo : Option Nat} {po : Option Addr} {r : List ByteArray} {w0 w : World} (h : Full G N P ns l vN (.slice ka ns.length kc) (.slice va L vc) mo po r w0 w) (k : Nat) (hk : k < ns.length) :
    ∃ db kb da dc, Laid w va ka (fun k => ns.getD k 0) P k db kb da dc := by
  have hget : ns[k]? = some (ns.getD k 0) := by simp [List.getD_eq_getElem?_getD, List.getElem?_eq_getElem hk]
  obtain ⟨da, dc, h1, h2, h3⟩ := h.decl k _ hget
  obtain ⟨e1, e2, e3⟩ := dcs_get h1
  have hkl : k < l.length := (List.getElem?_eq_some_iff.1 h1).1
  have hD := h.rD
  obtain ⟨_, ⟨hv, h0⟩ | ⟨db, cap, cur, hv, _⟩⟩ := hD
  · omega
  have hK := h.rK
  obtain ⟨_, ⟨hv2, h02⟩ | ⟨kb, cap2, cur2, hv2, _⟩⟩ := hK
  · omega
  cases hv
  cases hv2
  have c0 := h.rD.cells (g := db) rfl _ _ e1
  have c1 := h.rD.cells (g := db) rfl _ _ e2
  have c2 := h.rD.cells (g := db) rfl _ _ e3
  have ck := h.rK.cells (g := kb) rfl k (.int .i64 ((ns.getD k 0 : Nat) : Int)) (by rw [List.getElem?_map, hget]; rfl)
  rw [Addr.add_mid, Nat.zero_add] at c0 c1 c2 ck
  exact ⟨db, kb, da, dc, ⟨rfl, rfl, ck, c0, c1, c2, h2⟩⟩
end Go.Proofs.YbulkecmmFmt
