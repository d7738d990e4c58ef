/-
  The graph in memory: what holds of it, and how it is carried along.
-/
import Derived.Test.YbulkecmmFmtClone
import Derived.Test.YbulkecmmFmtIs
import Derived.Conc.MuLone
import Derived.Maps.OwnSet
set_option linter.unusedVariables false
set_option linter.unusedSimpArgs false
namespace Go.Proofs.YbulkecmmFmt
open Go.RowKit

/-- A declaration as it lies in g.decls: its name, its deps, its fn. -/
abbrev Dc := ByteArray × Value × Value
def dcs (l : List Dc) : List Value := l.flatMap fun d => [.string d.1, d.2.1, d.2.2]
theorem length_dcs : ∀ l : List Dc, (dcs l).length = l.length * 3
  | [] => rfl
  | d :: r => by
    have := length_dcs r
    simp only [dcs, List.flatMap_cons, List.length_append, List.length_cons, List.length_nil] at this ⊢
    omega

/-- The graph's five cells. -/
def gCells (s : Int) (vD : Value) (mo : Option Nat) (po : Option Addr) : Array Value := #[.int .i32 s, .int .u32 0, vD, .map mo, .pointer po]

/-- The graph at block g: not locked; its decls are l, in a row of the call's own from base on. -/
structure Gr (base g : Nat) (l : List Dc) (vD : Value) (mo : Option Nat) (po : Option Addr) (w : World) : Prop where
  blk : w.heap[g]? = some (.cells (gCells 0 vD mo po) 83 (0, 0))
  row : w.ownsRow base 89 3 vD l.length (dcs l)
  lt : g < base

theorem lt_of_heap {w : World} {b : Nat} {o : Obj} (h : w.heap[b]? = some o) : b < w.heap.size := (Array.getElem?_eq_some_iff.1 h).1

/-- One cell of a block written: the block. -/
theorem heap_set {w : World} {b o : Nat} {cs : Array Value} {t : TypeId} (h : w.heap[b]? = some (.cells cs t (0, 0))) (v : Value) : (w.setCell ⟨b, o, none⟩ v).heap[b]? = some (.cells (cs.setIfInBounds o v) t (0, 0)) :=
  heap_setCell_same w b o cs t v h

/-- A store that puts back what was there turns nothing. -/
theorem below_back {X : Nat} {w w1 : World} {b o : Nat} {cs : Array Value} {t : TypeId} {v : Value} (h : w.heap[b]? = some (.cells cs t (0, 0))) (hX : ∀ k, k < X → k ≠ b → w1.heap[k]? = w.heap[k]?)
    (h1 : w1.heap[b]? = some (.cells (cs.setIfInBounds o v) t (0, 0))) (ho : w1.os = w.os) (ht : w1.tape = w.tape) (hp : w1.output = w.output) (hs : w.heap.size ≤ w1.heap.size) {u : Value} (hu : cs[o]? = some u) : Below X w (w1.setCell ⟨b, o, none⟩ u) := by
  refine ⟨ho, ht, hp, by simpa using hs, fun k hk => ?_⟩
  by_cases e : k = b
  · subst e
    rw [heap_set h1, h]
    congr 2
    rw [Array.setIfInBounds_setIfInBounds]
    apply Array.ext_getElem?
    intro i
    rw [Array.getElem?_setIfInBounds]
    split
    · rename_i e; subst e; split
      · exact hu.symm
      · rename_i hlt; rw [Array.getElem?_eq_none (by omega)] at hu; cases hu
    · rfl
  · rw [Below.heap_setCell _ _ _ _ (by exact e)]
    exact hX k hk e

/-- Under the lock: the graph's block bears state 1; every other old block is as it was. -/
structure Held (g : Nat) (vD : Value) (mo : Option Nat) (po : Option Addr) (w w1 : World) : Prop where
  blk : w1.heap[g]? = some (.cells (gCells 1 vD mo po) 83 (0, 0))
  oth : ∀ k, k < w.heap.size → k ≠ g → w1.heap[k]? = w.heap[k]?
  os : w1.os = w.os
  tape : w1.tape = w.tape
  output : w1.output = w.output
  size : w.heap.size < w1.heap.size

theorem gCells_set (s s' : Int) (vD : Value) (mo : Option Nat) (po : Option Addr) : (gCells s vD mo po).setIfInBounds 0 (.int .i32 s') = gCells s' vD mo po := rfl

theorem held_mk {g : Nat} {vD : Value} {mo : Option Nat} {po : Option Addr} {w : World} (hb : w.heap[g]? = some (.cells (gCells 0 vD mo po) 83 (0, 0))) (o : Obj) :
    Held g vD mo po w ((w.alloc o).setCell ⟨g, 0, none⟩ (.int .i32 1)) := by
  have hg := lt_of_heap hb
  have hb1 : (w.alloc o).heap[g]? = some (.cells (gCells 0 vD mo po) 83 (0, 0)) := by rw [Below.heap_alloc _ _ _ hg]; exact hb
  exact ⟨heap_set hb1 _, fun k hk hne => by rw [Below.heap_setCell _ _ _ _ (by exact hne), Below.heap_alloc _ _ _ hk], rfl, rfl, rfl, by simp⟩

theorem Held.next {g : Nat} {vD : Value} {mo : Option Nat} {po : Option Addr} {w w1 w2 : World} (h : Held g vD mo po w w1) (hb : Below w1.heap.size w1 w2) : Held g vD mo po w w2 :=
  ⟨(hb.block g (lt_of_heap h.blk)).trans h.blk, fun k hk hne => (hb.block k (Nat.lt_trans hk h.size)).trans (h.oth k hk hne), hb.os.trans h.os, hb.tape.trans h.tape, hb.output.trans h.output, Nat.lt_of_lt_of_le h.size hb.size⟩

theorem Held.back {g : Nat} {vD : Value} {mo : Option Nat} {po : Option Addr} {w w1 : World} (hb : w.heap[g]? = some (.cells (gCells 0 vD mo po) 83 (0, 0))) (h : Held g vD mo po w w1) :
    Below w.heap.size w (w1.setCell ⟨g, 0, none⟩ (.int .i32 0)) :=
  below_back (cs := gCells 0 vD mo po) (o := 0) (v := .int .i32 1) hb (fun k hk hne => h.oth k hk hne) h.blk h.os h.tape h.output (Nat.le_of_lt h.size) rfl

theorem Held.cell {g : Nat} {vD : Value} {mo : Option Nat} {po : Option Addr} {w w1 : World} (h : Held g vD mo po w w1) {a : Addr} {v : Value} (hc : w.cell? a = some v) (hne : a.block ≠ g) : w1.cell? a = some v := by
  rw [World.cell?_of_block (w := w) (h.oth a.block (World.block_lt_of_cell? w _ hc) hne)]; exact hc
theorem Held.c0 {g : Nat} {vD : Value} {mo : Option Nat} {po : Option Addr} {w w1 : World} (h : Held g vD mo po w w1) : w1.cell? ⟨g, 0, none⟩ = some (.int .i32 1) := by rw [cell_of_row _ _ _ _ _ _ h.blk]; rfl
theorem Held.c2 {g : Nat} {vD : Value} {mo : Option Nat} {po : Option Addr} {w w1 : World} (h : Held g vD mo po w w1) : w1.cell? ⟨g, 2, none⟩ = some vD := by rw [cell_of_row _ _ _ _ _ _ h.blk]; rfl
theorem Held.c3 {g : Nat} {vD : Value} {mo : Option Nat} {po : Option Addr} {w w1 : World} (h : Held g vD mo po w w1) : w1.cell? ⟨g, 3, none⟩ = some (.map mo) := by rw [cell_of_row _ _ _ _ _ _ h.blk]; rfl
theorem Held.c4 {g : Nat} {vD : Value} {mo : Option Nat} {po : Option Addr} {w w1 : World} (h : Held g vD mo po w w1) : w1.cell? ⟨g, 4, none⟩ = some (.pointer po) := by rw [cell_of_row _ _ _ _ _ _ h.blk]; rfl
theorem Held.free {g : Nat} {vD : Value} {mo : Option Nat} {po : Option Addr} {w w1 : World} (h : Held g vD mo po w w1) (o : Nat) : w1.frozen? ⟨g, o, none⟩ = false := frozen_of_row _ _ _ _ _ h.blk
end Go.Proofs.YbulkecmmFmt
