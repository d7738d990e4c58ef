/-
  slices.Clone over []string, nil or not, by one contract.
-/
import Derived.Test.YbulkecmmFmtBuilt
set_option linter.unusedVariables false
set_option linter.unusedSimpArgs false
namespace Go.Proofs.YbulkecmmFmt
open Go.RowKit

/-- What Clone gives: nil for nil; else a row of its own that holds the same strings. -/
structure ClonedAny (a : Option Addr) (n : Nat) (f : Nat → ByteArray) (ca : Option Addr) (w w' : World) : Prop where
  strs : Strs w' ca n f
  own : ∀ x, ca = some x → ∃ b, x = ⟨b, 0, none⟩ ∧ w.heap.size ≤ b ∧ ∃ cur, w'.heap[b]? = some (.cells cur 9 (0, 0))
  nil : ca.isNone = a.isNone
  below : Below w.heap.size w w'

theorem clone_any (a : Option Addr) (n c : Nat) (f : Nat → ByteArray) (w : World) (hn : n * 16 ≤ 140737488355328) (hs : Strs w a n f) (h0 : a = none → n = 0) :
    Calls Ybaf.prog 11 #[.slice a n c] w fun e w' => ∃ ca cc, e = .returned (.slice ca n cc) ∧ ClonedAny a n f ca w w' := by
  cases a with
  | none =>
    obtain rfl := h0 rfl
    refine (clone_nil 0 c w).mono ?_
    rintro e w' ⟨rfl, rfl⟩
    exact ⟨none, 0, rfl, ⟨fun i hi => absurd hi (by omega), (fun x e => by cases e), rfl, Below.refl _ _⟩⟩
  | some ad =>
    refine (clone_some ad n c f w hn ?_).mono ?_
    · intro i hi
      obtain ⟨b, o, e, hc⟩ := hs i hi
      cases e
      rw [Addr.add_mid]; exact hc
    · rintro e w' ⟨g, cap, rfl, h1, h2, h3, h4⟩
      have h3' := h3
      obtain ⟨cur, hc, _⟩ := h3'
      exact ⟨some ⟨g, 0, none⟩, cap, rfl, ⟨h3.strs, (fun x e => by cases e; exact ⟨g, rfl, h1, cur, hc⟩), rfl, h4⟩⟩

/-- Behind the drawn region 'd := decl{name: p.Name, deps: slices.Clone(p.Deps)}': Bd: where d lies. -/
structure Decl (G N m wB Bd : Nat) (P : Nat → Pd) (ns ks ds : List Nat) (l : List Dc) (vN vK vD : Value) (ca : Option Addr) (cc : Nat) (w0 w : World) : Prop where
  built : Built G N P ns ks ds l vN vK vD w0 w
  box : w.heap[wB]? = some (.cells #[.string (P m).name, .slice (P m).a (P m).n (P m).c, .bool (P m).node] 74 (0, 0))
  d : w.heap[Bd]? = some (.cells #[.string (P m).name, .slice ca (P m).n cc, .nilFunc] 89 (0, 0))
  far : G + 3 ≤ Bd
  apart : some Bd ≠ vD.ownBlock
  strs : Strs w ca (P m).n (P m).f
  own : Own9 w (G + 3) ca vN.ownBlock

/-- The clone lies apart from all that was. -/
theorem own_clone {G N : Nat} {P : Nat → Pd} {ns ks ds : List Nat} {l : List Dc} {vN vK vD : Value} {a ca : Option Addr} {n : Nat} {f : Nat → ByteArray} {w0 w5 W w6 w' : World} (h : Built G N P ns ks ds l vN vK vD w0 w5) (hcl : ClonedAny a n f ca W w6) (hW : w5.heap.size ≤ W.heap.size)
    (hb : ∀ k, W.heap.size ≤ k → k < w6.heap.size → w'.heap[k]? = w6.heap[k]?) : Strs w' ca n f ∧ Own9 w' (G + 3) ca vN.ownBlock := by
  have hG := lt_of_heap h.nv
  refine ⟨hcl.strs.heap (fun x e => ?_), fun x e => ?_⟩
  · obtain ⟨b, rfl, h1, cur, hc⟩ := hcl.own x e
    exact hb b h1 (lt_of_heap hc)
  · obtain ⟨b, rfl, h1, cur, hc⟩ := hcl.own x e
    refine ⟨b, rfl, by omega, fun e2 => ?_, cur, (hb b h1 (lt_of_heap hc)).trans hc⟩
    have := (h.rN.lt b e2.symm).2
    omega

theorem decl_b {G N m wB cc : Nat} {P : Nat → Pd} {ns ks ds : List Nat} {l : List Dc} {vN vK vD : Value} {ca : Option Addr} {w0 w5 w6 : World} (h : Built G N P ns ks ds l vN vK vD w0 w5)
    (hbx : w5.heap[wB]? = some (.cells #[.string (P m).name, .slice (P m).a (P m).n (P m).c, .bool (P m).node] 74 (0, 0))) (hcl : ClonedAny (P m).a (P m).n (P m).f ca w5.drew w6) :
    Decl G N m wB w6.heap.size P ns ks ds l vN vK vD ca cc w0 (w6.alloc (.cells #[.string (P m).name, .slice ca (P m).n cc, .nilFunc] 89)) := by
  have hb6 : Below w5.heap.size w5 w6 := ⟨hcl.below.os, hcl.below.tape, hcl.below.output, hcl.below.size, hcl.below.block⟩
  have hb : Below w5.heap.size w5 (w6.alloc (.cells #[.string (P m).name, .slice ca (P m).n cc, .nilFunc] 89)) := hb6.alloc hb6.size _
  have hG := lt_of_heap h.nv
  have hs := hb6.size
  obtain ⟨h1, h2⟩ := own_clone (w' := w6.alloc (.cells #[.string (P m).name, .slice ca (P m).n cc, .nilFunc] 89)) h hcl (Nat.le_refl _) (fun k _ hk => Below.heap_alloc _ _ _ hk)
  exact ⟨h.next hb, (hb.block _ (lt_of_heap hbx)).trans hbx, heap_alloc_new _ _, by omega, (fun e => by have := (h.rD.lt _ e.symm).2; omega), h1, h2⟩

theorem decl_a {G N m wB cc : Nat} {P : Nat → Pd} {ns ks ds : List Nat} {l : List Dc} {vN vK vD : Value} {ca : Option Addr} {w0 w5 w6 : World} (h : Built G N P ns ks ds l vN vK vD w0 w5)
    (hbx : w5.heap[wB]? = some (.cells #[.string (P m).name, .slice (P m).a (P m).n (P m).c, .bool (P m).node] 74 (0, 0))) (hcl : ClonedAny (P m).a (P m).n (P m).f ca (w5.alloc (.cells #[.string ⟨#[]⟩, .slice none 0 0, .nilFunc] 89)).drew w6) :
    Decl G N m wB w5.heap.size P ns ks ds l vN vK vD ca cc w0 (((w6.setCell ⟨w5.heap.size, 0, none⟩ (.string (P m).name)).setCell ⟨w5.heap.size, 1, none⟩ (.slice ca (P m).n cc)).setCell ⟨w5.heap.size, 2, none⟩ .nilFunc) := by
  have hz : (w5.alloc (.cells #[.string ⟨#[]⟩, .slice none 0 0, .nilFunc] 89)).drew.heap.size = w5.heap.size + 1 := by show (w5.alloc _).heap.size = _; simp
  have hG := lt_of_heap h.nv
  have hd6 : w6.heap[w5.heap.size]? = some (.cells #[.string ⟨#[]⟩, .slice none 0 0, .nilFunc] 89 (0, 0)) := (hcl.below.block _ (by rw [hz]; omega)).trans (heap_alloc_new w5 _)
  have far : ∀ k, k ≠ w5.heap.size → (((w6.setCell ⟨w5.heap.size, 0, none⟩ (.string (P m).name)).setCell ⟨w5.heap.size, 1, none⟩ (.slice ca (P m).n cc)).setCell ⟨w5.heap.size, 2, none⟩ .nilFunc).heap[k]? = w6.heap[k]? := fun k hk => by
    rw [Below.heap_setCell _ _ _ _ (by exact hk), Below.heap_setCell _ _ _ _ (by exact hk), Below.heap_setCell _ _ _ _ (by exact hk)]
  have old : ∀ k, k < w5.heap.size → (((w6.setCell ⟨w5.heap.size, 0, none⟩ (.string (P m).name)).setCell ⟨w5.heap.size, 1, none⟩ (.slice ca (P m).n cc)).setCell ⟨w5.heap.size, 2, none⟩ .nilFunc).heap[k]? = w5.heap[k]? := fun k hk => by
    rw [far k (by omega), hcl.below.block k (by rw [hz]; omega)]
    exact Below.heap_alloc _ _ _ hk
  have hs6 : w5.heap.size + 1 ≤ w6.heap.size := by rw [← hz]; exact hcl.below.size
  obtain ⟨h1, h2⟩ := own_clone (w' := (((w6.setCell ⟨w5.heap.size, 0, none⟩ (.string (P m).name)).setCell ⟨w5.heap.size, 1, none⟩ (.slice ca (P m).n cc)).setCell ⟨w5.heap.size, 2, none⟩ .nilFunc)) h hcl (by rw [hz]; omega) (fun k hk _ => far k (by rw [hz] at hk; omega))
  refine ⟨h.turn hcl.below.os hcl.below.tape hcl.below.output (by simp; omega) old, (old _ (lt_of_heap hbx)).trans hbx, ?_, by omega, (fun e => by have := (h.rD.lt _ e.symm).2; omega), h1, h2⟩
  exact heap_set (heap_set (heap_set hd6 _) _) _

/-- Behind 'if p.IsNode { d.fn = .. }'. -/
structure DeclF (G N m Bd : Nat) (P : Nat → Pd) (ns ks ds : List Nat) (l : List Dc) (vN vK vD : Value) (ca : Option Addr) (cc : Nat) (w0 w : World) : Prop where
  built : Built G N P ns ks ds l vN vK vD w0 w
  d : w.heap[Bd]? = some (.cells #[.string (P m).name, .slice ca (P m).n cc, fnv (P m).node] 89 (0, 0))
  strs : Strs w ca (P m).n (P m).f
  own : Own9 w (G + 3) ca vN.ownBlock

theorem Decl.fin_false {G N m wB Bd cc : Nat} {P : Nat → Pd} {ns ks ds : List Nat} {l : List Dc} {vN vK vD : Value} {ca : Option Addr} {w0 w : World} (h : Decl G N m wB Bd P ns ks ds l vN vK vD ca cc w0 w) (hn : (P m).node = false) : DeclF G N m Bd P ns ks ds l vN vK vD ca cc w0 w :=
  ⟨h.built, by rw [hn]; exact h.d, h.strs, h.own⟩

/-- A block of decls that is not g.decls's own may be written. -/
theorem Built.apart {G N Bd : Nat} {P : Nat → Pd} {ns ks ds : List Nat} {l : List Dc} {vN vK vD : Value} {w0 w : World} {cs : Array Value} (h : Built G N P ns ks ds l vN vK vD w0 w) (hd : w.heap[Bd]? = some (.cells cs 89 (0, 0))) (hf : G + 3 ≤ Bd) (hD : some Bd ≠ vD.ownBlock) (o : Nat) (v : Value) :
    Built G N P ns ks ds l vN vK vD w0 (w.setCell ⟨Bd, o, none⟩ v) ∧ ∀ (k : Nat) (cur : Array Value), w.heap[k]? = some (.cells cur 9 (0, 0)) → (w.setCell ⟨Bd, o, none⟩ v).heap[k]? = w.heap[k]? := by
  have far : ∀ k, k ≠ Bd → (w.setCell ⟨Bd, o, none⟩ v).heap[k]? = w.heap[k]? := fun k hk => Below.heap_setCell _ _ _ _ (by exact hk)
  have keep : ∀ (k : Nat) (cur : Array Value) (e : Nat), w.heap[k]? = some (.cells cur e (0, 0)) → e ≠ 89 → (w.setCell ⟨Bd, o, none⟩ v).heap[k]? = w.heap[k]? := fun k cur e hk he => far k (fun e2 => by subst e2; rw [hd] at hk; cases hk; exact he rfl)
  refine ⟨⟨h.sz, h.below.trans ⟨rfl, rfl, rfl, by simp, fun k hk => far k (by omega)⟩, (far _ (by omega)).trans h.gblk, (far _ (by omega)).trans h.gv, (far _ (by omega)).trans h.nv, ?_, ?_, ?_, h.len, ?_, h.nd, h.lt⟩, fun k cur hk => keep k cur 9 hk (by decide)⟩
  · refine owns_of_block h.rN fun k e => ?_
    obtain ⟨cur, hc⟩ := row_heap h.rN e
    exact keep k cur 9 hc (by decide)
  · refine owns_of_block h.rK fun k e => ?_
    obtain ⟨cur, hc⟩ := row_heap h.rK e
    exact keep k cur 3 hc (by decide)
  · refine owns_of_block h.rD fun k e => far k (fun e2 => hD (by rw [← e2]; exact e.symm))
  · intro k i hk
    obtain ⟨da, dc, h1, h2, h3⟩ := h.decl k i hk
    refine ⟨da, dc, h1, h2.heap (fun x e => ?_), fun x e => ?_⟩
    · obtain ⟨b, rfl, h4, h5, cur, hc⟩ := h3 x e
      exact keep b cur 9 hc (by decide)
    · obtain ⟨b, rfl, h4, h5, cur, hc⟩ := h3 x e
      exact ⟨b, rfl, h4, h5, cur, (keep b cur 9 hc (by decide)).trans hc⟩

theorem Decl.fin_true {G N m wB Bd cc : Nat} {P : Nat → Pd} {ns ks ds : List Nat} {l : List Dc} {vN vK vD : Value} {ca : Option Addr} {w0 w : World} (h : Decl G N m wB Bd P ns ks ds l vN vK vD ca cc w0 w) (hn : (P m).node = true) : DeclF G N m Bd P ns ks ds l vN vK vD ca cc w0 (w.setCell ⟨Bd, 2, none⟩ (fnv true)) := by
  obtain ⟨h1, h2⟩ := h.built.apart h.d h.far h.apart 2 (fnv true)
  refine ⟨h1, by rw [hn]; exact heap_set h.d _, h.strs.heap (fun x e => ?_), fun x e => ?_⟩
  · obtain ⟨b, rfl, h4, h5, cur, hc⟩ := h.own x e
    exact h2 b cur hc
  · obtain ⟨b, rfl, h4, h5, cur, hc⟩ := h.own x e
    exact ⟨b, rfl, h4, h5, cur, (h2 b cur hc).trans hc⟩
end Go.Proofs.YbulkecmmFmt
