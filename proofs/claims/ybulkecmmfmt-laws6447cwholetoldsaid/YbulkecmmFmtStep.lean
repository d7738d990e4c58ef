/-
  The two small appends of a round; where the building starts.
-/
import Derived.Test.YbulkecmmFmtDecl
set_option linter.unusedVariables false
set_option linter.unusedSimpArgs false
namespace Go.Proofs.YbulkecmmFmt
open Go.RowKit Go.Extern.Stop Go.Stop Go.Extern

theorem names_step {G N i g cap B Nv : Nat} {P : Nat → Pd} {ns ks ds : List Nat} {l : List Dc} {vN vK vD : Value} {bx : Array Value} {w0 w w' : World} (h : Built G N P ns ks ds l vN vK vD w0 w) (hbx : w.heap[B]? = some (.cells bx 74 (0, 0))) (hNv : Nv = G + 2) (hi : i < N) (hnew : (P i).name ∉ ns.map fun i => (P i).name)
    (hown : w'.ownsRow (G + 3) 9 1 (.slice (some ⟨g, 0, none⟩) (ns.length + 1) cap) (ns.length + 1) ((ns.map fun i => .string (P i).name) ++ [.string (P i).name])) (hgr : w.grownBy w' vN.ownBlock) (hor : vN.ownBlock = some g ∨ g = w.heap.size) :
    w'.cell? ⟨Nv, 0, none⟩ = some vN ∧ w'.frozen? ⟨Nv, 0, none⟩ = false ∧ Nv < w'.heap.size ∧
    Built G N P (ns ++ [i]) ks ds l (.slice (some ⟨g, 0, none⟩) (ns.length + 1) cap) vK vD w0 (w'.setCell ⟨Nv, 0, none⟩ (.slice (some ⟨g, 0, none⟩) (ns.length + 1) cap)) ∧
    (w'.setCell ⟨Nv, 0, none⟩ (.slice (some ⟨g, 0, none⟩) (ns.length + 1) cap)).heap[B]? = some (.cells bx 74 (0, 0)) := by
  subst hNv
  have h2 : w'.heap[G + 2]? = some (.cells #[vN] 72 (0, 0)) := by
    rw [hgr.block _ (lt_of_heap h.nv) (other_block h.rN h.nv (by decide))]; exact h.nv
  refine ⟨by rw [cell_of_row _ _ _ _ _ _ h2]; rfl, frozen_of_row _ _ _ _ _ h2, lt_of_heap h2, h.names hi hnew hown hgr (hor.elim .inl (fun e => .inr (Nat.le_of_eq e.symm))), ?_⟩
  rw [Below.heap_setCell _ _ _ _ (by show B ≠ G + 2; intro e; rw [e, h.nv] at hbx; cases hbx), hgr.block _ (lt_of_heap hbx) (other_block h.rN hbx (by decide))]
  exact hbx
theorem kept_step {G N i g cap B : Nat} {P : Nat → Pd} {ns ks ds : List Nat} {l : List Dc} {vN vK vD : Value} {bx : Array Value} {w0 w w' : World} (h : Built G N P ns ks ds l vN vK vD w0 w) (hbx : w.heap[B]? = some (.cells bx 74 (0, 0)))
    (hown : w'.ownsRow (G + 3) 3 1 (.slice (some ⟨g, 0, none⟩) (ks.length + 1) cap) (ks.length + 1) ((ks.map fun i => .int .i64 (i : Nat)) ++ [.int .i64 (i : Nat)])) (hgr : w.grownBy w' vK.ownBlock) :
    Built G N P ns (ks ++ [i]) ds l vN (.slice (some ⟨g, 0, none⟩) (ks.length + 1) cap) vD w0 w' ∧ w'.heap[B]? = some (.cells bx 74 (0, 0)) :=
  ⟨h.kept hown hgr, (hgr.block _ (lt_of_heap hbx) (other_block h.rK hbx (by decide))).trans hbx⟩
theorem news_of_new (w : World) (e : Nat) (v : Value) (H : Nat) (hH : w.heap.size = H) : ∀ j u, ([v] : List Value)[j]? = some u → (w.alloc (.cells #[v] e)).cell? ((⟨H, 0, none⟩ : Addr).add j) = some u := fun j u hu => by
  subst hH
  rw [Addr.add_mid, cell_of_row _ _ _ _ _ _ (heap_alloc_new w (.cells #[v] e)), Nat.zero_add]; simpa using hu
theorem Ybaf.info3 : (Ybaf.prog.info? 3).map (fun i => (i.zero, i.size, i.bytes)) = some (some (.int .i64 0), 1, 8) := by kernel_rfl

theorem built_start (N : Nat) (P : Nat → Pd) (w0 : World) : Built w0.heap.size N P [] [] [] [] (.slice none 0 0) (.slice none 0 0) (.slice none 0 0) w0
    (((w0.alloc (.cells #[.int .i32 0, .int .u32 0, .slice none 0 0, .map none, .pointer none] 83)).alloc (.cells #[.pointer (some ⟨w0.heap.size, 0, none⟩)] 75)).alloc (.cells #[.slice none 0 0] 72)) := by
  have hz1 : ∀ o : Obj, (w0.alloc o).heap.size = w0.heap.size + 1 := fun o => by simp
  have hz2 : ∀ o p : Obj, ((w0.alloc o).alloc p).heap.size = w0.heap.size + 2 := fun o p => by simp
  refine ⟨rfl, (((Below.refl _ _).alloc (Nat.le_refl _) _).alloc (by rw [hz1]; omega) _).alloc (by rw [hz2]; omega) _, ?_, ?_, ?_, World.ownsRow_nil _ _ _ _, World.ownsRow_nil _ _ _ _, World.ownsRow_nil _ _ _ _, rfl, fun k i h => by simp at h, by simp, fun i h => by simp at h⟩
  · rw [Below.heap_alloc _ _ _ (by rw [hz2]; omega), Below.heap_alloc _ _ _ (by rw [hz1]; omega)]; exact heap_alloc_new _ _
  · rw [Below.heap_alloc _ _ _ (by rw [hz2]; omega)]
    have := heap_alloc_new (w0.alloc (.cells #[.int .i32 0, .int .u32 0, .slice none 0 0, .map none, .pointer none] 83)) (.cells #[.pointer (some ⟨w0.heap.size, 0, none⟩)] 75)
    rwa [hz1] at this
  · have := heap_alloc_new ((w0.alloc (.cells #[.int .i32 0, .int .u32 0, .slice none 0 0, .map none, .pointer none] 83)).alloc (.cells #[.pointer (some ⟨w0.heap.size, 0, none⟩)] 75)) (.cells #[.slice none 0 0] 72)
    rwa [hz2] at this

theorem fn_lit (w : World) : Calls Ybaf.prog 12 #[] w fun e w' => e = .returned (.func (.func 30) #[] #[]) ∧ w' = w := fn_any w

theorem decls_step {G Gv N m Bd cc g cap : Nat} {ca : Option Addr} {P : Nat → Pd} {ns ks ds : List Nat} {l : List Dc} {vN vK vD : Value} {w0 w w' : World} {o : Obj} (h : DeclF G N m Bd P ns ks ds l vN vK vD ca cc w0 w)
    (hown : w'.ownsRow (G + 3) 89 3 (.slice (some ⟨g, 0, none⟩) (l.length + 1) cap) (l.length + 1) (dcs l ++ [.string (P m).name, .slice ca (P m).n cc, fnv (P m).node])) (hgr : ((w.alloc o).drew).grownBy w' vD.ownBlock) (hor : vD.ownBlock = some g ∨ g = w.heap.size + 1) (hGv : Gv = G + 1) :
    w'.cell? ⟨Gv, 0, none⟩ = some (.pointer (some ⟨G, 0, none⟩)) ∧ w'.cell? ⟨G, 2, none⟩ = some vD ∧ w'.frozen? ⟨G, 2, none⟩ = false ∧
    Built G N P ns ks (ds ++ [m]) (l ++ [((P m).name, Value.slice ca (P m).n cc, fnv (P m).node)]) vN vK (.slice (some ⟨g, 0, none⟩) (l.length + 1) cap) w0 (w'.setCell ⟨G, 2, none⟩ (.slice (some ⟨g, 0, none⟩) (l.length + 1) cap)) := by
  have hz : ((w.alloc o).drew).heap.size = w.heap.size + 1 := by show (w.alloc o).heap.size = _; simp
  have hb : Below w.heap.size w ((w.alloc o).drew) := ((Below.refl _ _).alloc (Nat.le_refl _) o).drew
  have h1 := h.built.next hb
  have hg : w'.heap[G]? = some (.cells (gCells 0 vD none none) 83 (0, 0)) := (hgr.block G (lt_of_heap h1.gblk) (other_block h1.rD h1.gblk (by decide))).trans h1.gblk
  have hv : w'.heap[G + 1]? = some (.cells #[.pointer (some ⟨G, 0, none⟩)] 75 (0, 0)) := (hgr.block _ (lt_of_heap h1.gv) (other_block h1.rD h1.gv (by decide))).trans h1.gv
  refine ⟨by rw [hGv, cell_of_row _ _ _ _ _ _ hv]; rfl, by rw [cell_of_row _ _ _ _ _ _ hg]; rfl, frozen_of_row _ _ _ _ _ hg, h1.decls (h.strs.below hb (Nat.le_refl _)) (fun x e => ?_) hown hgr ?_⟩
  · obtain ⟨b, rfl, h4, h5, cur, hc⟩ := h.own x e
    exact ⟨b, rfl, h4, h5, cur, (hb.block b (lt_of_heap hc)).trans hc⟩
  · rcases hor with e | e
    · exact .inl e
    · exact .inr (by omega)

/-- 'g.plan.Store(&Plan{})', as the walk leaves the world. -/
theorem Full.planned {G N : Nat} {P : Nat → Pd} {ns : List Nat} {l : List Dc} {vN vK vD : Value} {mo : Option Nat} {po : Option Addr} {r : List ByteArray} {w0 w : World} (h : Full G N P ns l vN vK vD mo po r w0 w) (c0 c1 c2 : Value) :
    Full G N P ns l vN vK vD mo (some ⟨w.heap.size, 0, none⟩) r w0 ((w.setCell ⟨G, 4, none⟩ (.pointer (some ⟨w.heap.size, 0, none⟩))).alloc (.cells #[c0, c1, c2] 94)) ∧
    Plan G true (some ⟨w.heap.size, 0, none⟩) ((w.setCell ⟨G, 4, none⟩ (.pointer (some ⟨w.heap.size, 0, none⟩))).alloc (.cells #[c0, c1, c2] 94)) := by
  have hg2 := lt_of_heap h.nv
  have hz : (w.setCell ⟨G, 4, none⟩ (.pointer (some ⟨w.heap.size, 0, none⟩))).heap.size = w.heap.size := by simp
  have oth : ∀ k, k ≠ G → (w.setCell ⟨G, 4, none⟩ (.pointer (some ⟨w.heap.size, 0, none⟩))).heap[k]? = w.heap[k]? := fun k hk => Below.heap_setCell _ _ _ _ (by exact hk)
  have h1 : Full G N P ns l vN vK vD mo (some ⟨w.heap.size, 0, none⟩) r w0 (w.setCell ⟨G, 4, none⟩ (.pointer (some ⟨w.heap.size, 0, none⟩))) :=
    h.turn rfl rfl rfl (by simp) (heap_set h.gblk _) (fun k _ hk _ _ => oth k hk) (owns_of_block h.rD fun k e => oth k (by have := (h.rD.lt k e).1; omega)) (fun _ _ h => h) (h.idx.same fun mb e => oth mb (by have := h.far mb e; omega)) h.far
  refine ⟨h1.next ((Below.refl _ _).alloc (Nat.le_refl _) _), .inr ⟨rfl, w.heap.size, c0, c1, c2, rfl, ?_, by omega⟩⟩
  have := heap_alloc_new (w.setCell ⟨G, 4, none⟩ (.pointer (some ⟨w.heap.size, 0, none⟩))) (.cells #[c0, c1, c2] 94)
  rwa [hz] at this
end Go.Proofs.YbulkecmmFmt
