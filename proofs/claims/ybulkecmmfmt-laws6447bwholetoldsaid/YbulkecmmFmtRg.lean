/-
  The ring in memory: what holds of it, and how it is carried along.
-/
import Derived.Test.YbulkecmmFmtBit
import Derived.Deep.OwnRows
import Derived.Below
set_option linter.unusedVariables false
set_option linter.unusedSimpArgs false
namespace Go.Proofs.YbulkecmmFmt
open Go.RowKit

def pubV (c : Nat) : Option Nat → Value
  | none => .slice none 0 0
  | some Pb => .slice (some ⟨Pb, 0, none⟩) c c
def gatV : Option (Nat × Nat) → Value
  | none => .slice none 0 0
  | some (Gb, _) => .slice (some ⟨Gb, 0, none⟩) 1 1

/-- The cells of the Ring that the law and PublishBatch look at. -/
structure Fields (c S : Nat) (pb : Option Nat) (gt : Option (Nat × Nat)) (x nx lm sh : Nat) (cs : Array Value) : Prop where
  f0 : cs[0]? = some (.slice (some ⟨S, 0, none⟩) c c)
  f1 : cs[1]? = some (.int .u64 ((c - 1 : Nat) : Int))
  f2 : cs[2]? = some (.int .u64 (c : Nat))
  f3 : cs[3]? = some (pubV c pb)
  f6 : cs[6]? = some (gatV gt)
  f135 : cs[135]? = some (.int .u64 (x : Nat))
  f136 : cs[136]? = some (.int .u32 0)
  f391 : cs[391]? = some (.int .u64 (nx : Nat))
  f392 : cs[392]? = some (.int .u64 (lm : Nat))
  f393 : cs[393]? = some (.int .u64 (sh : Nat))

structure Rg (B R S c : Nat) (pb : Option Nat) (gt : Option (Nat × Nat)) (x nx lm sh : Nat) (s : Nat → Int) (p : Nat → Nat) (g : Nat) (wz w0 w : World) : Prop where
  below : Below B w0 w
  zs : wz.heap.size ≤ w.heap.size
  kept : ∀ k, k < wz.heap.size → k ≠ R → k ≠ S → pb ≠ some k → w.heap[k]? = wz.heap[k]?
  lR : B ≤ R
  lS : B ≤ S
  ring : ∃ cs, w.heap[R]? = some (.cells cs 60 (0, 0)) ∧ Fields c S pb gt x nx lm sh cs
  slots : w.rowIs S 3 c (fun i => .int .i64 (s i))
  pub : ∀ Pb, pb = some Pb → B ≤ Pb ∧ w.rowIs Pb 36 c (fun i => .int .u64 (p i : Nat))
  gat : ∀ Gb Gs, gt = some (Gb, Gs) → B ≤ Gb ∧ B ≤ Gs ∧ (∃ cs, w.heap[Gb]? = some (.cells cs 61 (0, 0)) ∧ cs[0]? = some (.pointer (some ⟨Gs, 0, none⟩))) ∧ ∃ cs, w.heap[Gs]? = some (.cells cs 55 (0, 0)) ∧ cs[128]? = some (.int .u64 (g : Nat))

theorem blk_ne {w : World} {a b : Nat} {ca cb : Array Value} {ta tb : TypeId} {fa fb : Nat × Nat} (ha : w.heap[a]? = some (.cells ca ta fa)) (hb : w.heap[b]? = some (.cells cb tb fb)) (h : ta ≠ tb) : a ≠ b := fun e => by
  subst e; rw [ha] at hb; cases hb; exact h rfl
theorem rgLt {w : World} {b : Nat} {o : Obj} (h : w.heap[b]? = some o) : b < w.heap.size := (Array.getElem?_eq_some_iff.1 h).1

section
variable {B R S c : Nat} {pb : Option Nat} {gt : Option (Nat × Nat)} {x nx lm sh : Nat} {s : Nat → Int} {p : Nat → Nat} {g : Nat} {wz w0 w w' : World}

theorem Rg.ltR (h : Rg B R S c pb gt x nx lm sh s p g wz w0 w) : R < w.heap.size := by obtain ⟨cs, hc, _⟩ := h.ring; exact rgLt hc
theorem Rg.cell (h : Rg B R S c pb gt x nx lm sh s p g wz w0 w) {o : Nat} {v : Value} (hv : ∀ cs, Fields c S pb gt x nx lm sh cs → cs[o]? = some v) : w.cell? ⟨R, o, none⟩ = some v := by
  obtain ⟨cs, hc, hf⟩ := h.ring
  rw [cell_of_row _ _ _ _ _ _ hc]; exact hv cs hf
theorem Rg.c0 (h : Rg B R S c pb gt x nx lm sh s p g wz w0 w) : w.cell? ⟨R, 0, none⟩ = some (.slice (some ⟨S, 0, none⟩) c c) := h.cell fun _ h => h.f0
theorem Rg.c1 (h : Rg B R S c pb gt x nx lm sh s p g wz w0 w) : w.cell? ⟨R, 1, none⟩ = some (.int .u64 ((c - 1 : Nat) : Int)) := h.cell fun _ h => h.f1
theorem Rg.c2 (h : Rg B R S c pb gt x nx lm sh s p g wz w0 w) : w.cell? ⟨R, 2, none⟩ = some (.int .u64 (c : Nat)) := h.cell fun _ h => h.f2
theorem Rg.c3 (h : Rg B R S c pb gt x nx lm sh s p g wz w0 w) : w.cell? ⟨R, 3, none⟩ = some (pubV c pb) := h.cell fun _ h => h.f3
theorem Rg.c6 (h : Rg B R S c pb gt x nx lm sh s p g wz w0 w) : w.cell? ⟨R, 6, none⟩ = some (gatV gt) := h.cell fun _ h => h.f6
theorem Rg.c135 (h : Rg B R S c pb gt x nx lm sh s p g wz w0 w) : w.cell? ⟨R, 135, none⟩ = some (.int .u64 (x : Nat)) := h.cell fun _ h => h.f135
theorem Rg.c136 (h : Rg B R S c pb gt x nx lm sh s p g wz w0 w) : w.cell? ⟨R, 136, none⟩ = some (.int .u32 0) := h.cell fun _ h => h.f136
theorem Rg.c391 (h : Rg B R S c pb gt x nx lm sh s p g wz w0 w) : w.cell? ⟨R, 391, none⟩ = some (.int .u64 (nx : Nat)) := h.cell fun _ h => h.f391
theorem Rg.c392 (h : Rg B R S c pb gt x nx lm sh s p g wz w0 w) : w.cell? ⟨R, 392, none⟩ = some (.int .u64 (lm : Nat)) := h.cell fun _ h => h.f392
theorem Rg.c393 (h : Rg B R S c pb gt x nx lm sh s p g wz w0 w) : w.cell? ⟨R, 393, none⟩ = some (.int .u64 (sh : Nat)) := h.cell fun _ h => h.f393
theorem Rg.free (h : Rg B R S c pb gt x nx lm sh s p g wz w0 w) (o : Nat) : w.frozen? ⟨R, o, none⟩ = false := by
  obtain ⟨cs, hc, _⟩ := h.ring
  exact frozen_of_row _ _ _ _ _ hc

/-- Old blocks are as they were, but the ring's own: what it bears now. -/
theorem Rg.turnR (h : Rg B R S c pb gt x nx lm sh s p g wz w0 w) (ho : w'.os = w.os) (ht : w'.tape = w.tape) (hp : w'.output = w.output) (hs : w.heap.size ≤ w'.heap.size) (hk : ∀ k, k < w.heap.size → k ≠ R → w'.heap[k]? = w.heap[k]?)
    {cs' : Array Value} (hR : w'.heap[R]? = some (.cells cs' 60 (0, 0))) {x' nx' lm' sh' : Nat} (hF : Fields c S pb gt x' nx' lm' sh' cs') : Rg B R S c pb gt x' nx' lm' sh' s p g wz w0 w' := by
  obtain ⟨cs, hc, hf⟩ := h.ring
  have hlR := h.lR
  have keep : ∀ {k : Nat} {cur : Array Value} {e : Nat}, w.heap[k]? = some (.cells cur e (0, 0)) → e ≠ 60 → w'.heap[k]? = w.heap[k]? := fun {k cur e} hk' he => hk k (rgLt hk') (blk_ne hk' hc he)
  refine ⟨h.below.trans ⟨ho, ht, hp, hs, fun k hkB => hk k (by have := rgLt hc; omega) (by omega)⟩, Nat.le_trans h.zs hs, (fun k h1 h2 h3 h4 => (hk k (Nat.lt_of_lt_of_le h1 h.zs) h2).trans (h.kept k h1 h2 h3 h4)), h.lR, h.lS, ⟨cs', hR, hF⟩, ?_, fun Pb e => ?_, fun Gb Gs e => ?_⟩
  · have hS := h.slots
    obtain ⟨cc, hb, _⟩ := hS
    exact h.slots.of_block (keep hb (by decide))
  · obtain ⟨h1, h2⟩ := h.pub Pb e
    have h2' := h2
    obtain ⟨cc, hb, _⟩ := h2'
    exact ⟨h1, h2.of_block (keep hb (by decide))⟩
  · obtain ⟨h1, h2, ⟨c1, hb1, hv1⟩, c2, hb2, hv2⟩ := h.gat Gb Gs e
    exact ⟨h1, h2, ⟨c1, (keep hb1 (by decide)).trans hb1, hv1⟩, c2, (keep hb2 (by decide)).trans hb2, hv2⟩

theorem Rg.setR (h : Rg B R S c pb gt x nx lm sh s p g wz w0 w) (o : Nat) (v : Value) {x' nx' lm' sh' : Nat} (hF : ∀ cs, Fields c S pb gt x nx lm sh cs → Fields c S pb gt x' nx' lm' sh' (cs.setIfInBounds o v)) : Rg B R S c pb gt x' nx' lm' sh' s p g wz w0 (w.setCell ⟨R, o, none⟩ v) := by
  obtain ⟨cs, hc, hf⟩ := h.ring
  exact h.turnR (w' := w.setCell ⟨R, o, none⟩ v) rfl rfl rfl (by simp) (fun k _ hk => Below.heap_setCell _ _ _ _ (by exact hk)) (heap_setCell_same w R o cs 60 v hc) (hF cs hf)

theorem at_set {cs : Array Value} {o i : Nat} {v u : Value} (h : cs[i]? = some u) (hne : o ≠ i) : (cs.setIfInBounds o v)[i]? = some u := by
  rw [Array.getElem?_setIfInBounds, if_neg hne]; exact h
theorem at_same {cs : Array Value} {o : Nat} {v u : Value} (h : cs[o]? = some u) : (cs.setIfInBounds o v)[o]? = some v := by
  rw [Array.getElem?_setIfInBounds, if_pos rfl, if_pos (Array.getElem?_eq_some_iff.1 h).1]

theorem Rg.setX (h : Rg B R S c pb gt x nx lm sh s p g wz w0 w) (y : Nat) : Rg B R S c pb gt y nx lm sh s p g wz w0 (w.setCell ⟨R, 135, none⟩ (.int .u64 (y : Nat))) :=
  h.setR 135 _ fun cs f => ⟨at_set f.f0 (by decide), at_set f.f1 (by decide), at_set f.f2 (by decide), at_set f.f3 (by decide), at_set f.f6 (by decide), at_same f.f135, at_set f.f136 (by decide), at_set f.f391 (by decide), at_set f.f392 (by decide), at_set f.f393 (by decide)⟩
theorem Rg.setNx (h : Rg B R S c pb gt x nx lm sh s p g wz w0 w) (y : Nat) : Rg B R S c pb gt x y lm sh s p g wz w0 (w.setCell ⟨R, 391, none⟩ (.int .u64 (y : Nat))) :=
  h.setR 391 _ fun cs f => ⟨at_set f.f0 (by decide), at_set f.f1 (by decide), at_set f.f2 (by decide), at_set f.f3 (by decide), at_set f.f6 (by decide), at_set f.f135 (by decide), at_set f.f136 (by decide), at_same f.f391, at_set f.f392 (by decide), at_set f.f393 (by decide)⟩
theorem Rg.setLm (h : Rg B R S c pb gt x nx lm sh s p g wz w0 w) (y : Nat) : Rg B R S c pb gt x nx y sh s p g wz w0 (w.setCell ⟨R, 392, none⟩ (.int .u64 (y : Nat))) :=
  h.setR 392 _ fun cs f => ⟨at_set f.f0 (by decide), at_set f.f1 (by decide), at_set f.f2 (by decide), at_set f.f3 (by decide), at_set f.f6 (by decide), at_set f.f135 (by decide), at_set f.f136 (by decide), at_set f.f391 (by decide), at_same f.f392, at_set f.f393 (by decide)⟩
theorem Rg.setSh (h : Rg B R S c pb gt x nx lm sh s p g wz w0 w) (y : Nat) : Rg B R S c pb gt x nx lm y s p g wz w0 (w.setCell ⟨R, 393, none⟩ (.int .u64 (y : Nat))) :=
  h.setR 393 _ fun cs f => ⟨at_set f.f0 (by decide), at_set f.f1 (by decide), at_set f.f2 (by decide), at_set f.f3 (by decide), at_set f.f6 (by decide), at_set f.f135 (by decide), at_set f.f136 (by decide), at_set f.f391 (by decide), at_set f.f392 (by decide), at_same f.f393⟩

theorem Rg.next (h : Rg B R S c pb gt x nx lm sh s p g wz w0 w) (hb : Below w.heap.size w w') : Rg B R S c pb gt x nx lm sh s p g wz w0 w' := by
  obtain ⟨cs, hc, hf⟩ := h.ring
  exact h.turnR hb.os hb.tape hb.output hb.size (fun k hk _ => hb.block k hk) ((hb.block R (rgLt hc)).trans hc) hf

/-- The slots were written. -/
theorem Rg.turnS (h : Rg B R S c pb gt x nx lm sh s p g wz w0 w) (ho : w'.os = w.os) (ht : w'.tape = w.tape) (hp : w'.output = w.output) (hs : w.heap.size ≤ w'.heap.size) (hk : ∀ k, k < w.heap.size → k ≠ S → w'.heap[k]? = w.heap[k]?)
    {s' : Nat → Int} (hS : w'.rowIs S 3 c (fun i => .int .i64 (s' i))) : Rg B R S c pb gt x nx lm sh s' p g wz w0 w' := by
  obtain ⟨cs, hc, hf⟩ := h.ring
  have hlS := h.lS
  have hSl := h.slots
  obtain ⟨cS, hbS, _⟩ := hSl
  have keep : ∀ {k : Nat} {cur : Array Value} {e : Nat}, w.heap[k]? = some (.cells cur e (0, 0)) → e ≠ 3 → w'.heap[k]? = w.heap[k]? := fun {k cur e} hk' he => hk k (rgLt hk') (blk_ne hk' hbS he)
  refine ⟨h.below.trans ⟨ho, ht, hp, hs, fun k hkB => hk k (by have := rgLt hbS; omega) (by omega)⟩, Nat.le_trans h.zs hs, (fun k h1 h2 h3 h4 => (hk k (Nat.lt_of_lt_of_le h1 h.zs) h3).trans (h.kept k h1 h2 h3 h4)), h.lR, h.lS, ⟨cs, (keep hc (by decide)).trans hc, hf⟩, hS, fun Pb e => ?_, fun Gb Gs e => ?_⟩
  · obtain ⟨h1, h2⟩ := h.pub Pb e
    have h2' := h2
    obtain ⟨cc, hb, _⟩ := h2'
    exact ⟨h1, h2.of_block (keep hb (by decide))⟩
  · obtain ⟨h1, h2, ⟨c1, hb1, hv1⟩, c2, hb2, hv2⟩ := h.gat Gb Gs e
    exact ⟨h1, h2, ⟨c1, (keep hb1 (by decide)).trans hb1, hv1⟩, c2, (keep hb2 (by decide)).trans hb2, hv2⟩

/-- A mark was stored. -/
theorem Rg.setP {Pb : Nat} (h : Rg B R S c (some Pb) gt x nx lm sh s p g wz w0 w) (i y : Nat) : Rg B R S c (some Pb) gt x nx lm sh s (fun j => if j = i then y else p j) g wz w0 (w.setCell ⟨Pb, i, none⟩ (.int .u64 (y : Nat))) := by
  obtain ⟨cs, hc, hf⟩ := h.ring
  obtain ⟨hlP, hP⟩ := h.pub Pb rfl
  have hP' := hP
  obtain ⟨cP, hbP, _⟩ := hP'
  have oth : ∀ k, k ≠ Pb → (w.setCell ⟨Pb, i, none⟩ (.int .u64 (y : Nat))).heap[k]? = w.heap[k]? := fun k hk => Below.heap_setCell _ _ _ _ (by exact hk)
  have keep : ∀ {k : Nat} {cur : Array Value} {e : Nat}, w.heap[k]? = some (.cells cur e (0, 0)) → e ≠ 36 → (w.setCell ⟨Pb, i, none⟩ (.int .u64 (y : Nat))).heap[k]? = w.heap[k]? := fun {k cur e} hk' he => oth k (blk_ne hk' hbP he)
  have hS := h.slots
  obtain ⟨cS, hbS, _⟩ := hS
  refine ⟨h.below.trans ⟨rfl, rfl, rfl, by simp, fun k hkB => oth k (by omega)⟩, (by simpa using h.zs), (fun k h1 h2 h3 h4 => (oth k (fun e => h4 (by rw [e]))).trans (h.kept k h1 h2 h3 h4)), h.lR, h.lS, ⟨cs, (keep hc (by decide)).trans hc, hf⟩, h.slots.of_block (keep hbS (by decide)), fun Pb' e => ?_, fun Gb Gs e => ?_⟩
  · cases e
    exact ⟨hlP, (hP.set i _).congr fun j hj => by split <;> rfl⟩
  · obtain ⟨h1, h2, ⟨c1, hb1, hv1⟩, c2, hb2, hv2⟩ := h.gat Gb Gs e
    exact ⟨h1, h2, ⟨c1, (keep hb1 (by decide)).trans hb1, hv1⟩, c2, (keep hb2 (by decide)).trans hb2, hv2⟩
end
end Go.Proofs.YbulkecmmFmt
