import Derived.Test.YbulkecoqAdd
import Derived.Deep.MidRow
import Derived.Deep.RegionHeld3
import Derived.Deep.LoopGhost
import Derived.Deep.Draws
import Derived.BigQuiet
import Derived.Deep.QuietTactic
import Derived.ChangeKeysEq
namespace Go.Proofs.Ybulkecoq
open Go.RowKit

theorem rangeAt_append {w : World} {b o : Nat} {xs ys : List Value} : w.rangeAt b o (xs ++ ys) ↔ w.rangeAt b o xs ∧ w.rangeAt b (o + xs.length) ys := by
  constructor
  · intro h
    refine ⟨fun j v hv => h j v (by rw [List.getElem?_append_left (List.getElem?_eq_some_iff.1 hv).1]; exact hv), fun j v hv => ?_⟩
    have := h (xs.length + j) v (by rw [List.getElem?_append_right (by omega), Nat.add_sub_cancel_left]; exact hv)
    rwa [← Nat.add_assoc] at this
  · intro ⟨h1, h2⟩ j v hv
    by_cases hj : j < xs.length
    · rw [List.getElem?_append_left hj] at hv
      exact h1 j v hv
    · rw [List.getElem?_append_right (by omega)] at hv
      have := h2 (j - xs.length) v hv
      rwa [show o + xs.length + (j - xs.length) = o + j by omega] at this

/-- The three cells of a time that 'Time{}.Add' gives. -/
def IsTm (l : List Value) : Prop := ∃ a b : Int, l = [.int .u64 a, .int .i64 b, .pointer none]
theorem IsTm.length {l : List Value} (h : IsTm l) : l.length = 3 := by obtain ⟨a, b, rfl⟩ := h; rfl
theorem IsTm.one {l : List Value} (h : IsTm l) : ∀ v ∈ l, v.oneCell' = true := by
  obtain ⟨a, b, rfl⟩ := h
  intro v hv
  simp at hv
  rcases hv with rfl | rfl | rfl <;> rfl

/-- The rows 0 .. n-1, one behind the other. -/
def rowsL (R : Nat → List Value) : Nat → List Value
  | 0 => []
  | n + 1 => rowsL R n ++ R n

theorem length_rowsL {R : Nat → List Value} (hR : ∀ i, IsTm (R i)) : ∀ n, (rowsL R n).length = n * 3
  | 0 => by simp [rowsL]
  | n + 1 => by rw [rowsL, List.length_append, length_rowsL hR n, (hR n).length]; omega
theorem rowsL_congr {R S : Nat → List Value} : ∀ {n}, (∀ i, i < n → R i = S i) → rowsL R n = rowsL S n
  | 0, _ => rfl
  | n + 1, h => by rw [rowsL, rowsL, rowsL_congr (n := n) (fun i hi => h i (by omega)), h n (by omega)]
theorem row_of_rowsL {R : Nat → List Value} (hR : ∀ i, IsTm (R i)) {w : World} {b : Nat} : ∀ {n : Nat}, w.rangeAt b 0 (rowsL R n) → ∀ j, j < n → w.rangeAt b (j * 3) (R j)
  | n + 1, h, j, hj => by
    rw [rowsL, rangeAt_append, length_rowsL hR, Nat.zero_add] at h
    by_cases e : j = n
    · subst e; exact h.2
    · exact row_of_rowsL hR h.1 j (by omega)
theorem rowsL_oneCell {R : Nat → List Value} (hR : ∀ i, IsTm (R i)) : ∀ n, ∀ v ∈ rowsL R n, v.oneCell' = true
  | 0, v, hv => by simp [rowsL] at hv
  | n + 1, v, hv => by
    rw [rowsL, List.mem_append] at hv
    rcases hv with hv | hv
    · exact rowsL_oneCell hR n v hv
    · exact (hR n).one v hv

/-- Only block b has turned. -/
structure Turned (b : Nat) (w w' : World) : Prop where
  os : w'.os = w.os
  tape : w'.tape = w.tape
  output : w'.output = w.output
  size : w'.heap.size = w.heap.size
  block : ∀ k, k ≠ b → w'.heap[k]? = w.heap[k]?
theorem Turned.refl (b : Nat) (w : World) : Turned b w w := ⟨rfl, rfl, rfl, rfl, fun _ _ => rfl⟩
theorem Turned.setCells (b : Nat) : ∀ (vs : List Value) (o : Nat) (w w0 : World), Turned b w0 w → Turned b w0 (w.setCells b o vs)
  | [], _, _, _, h => h
  | v :: r, o, w, w0, h => by
    rw [World.setCells]
    exact Turned.setCells b r (o + 1) _ _ ⟨h.os, h.tape, h.output, by rw [← h.size]; simp, fun k hk => by rw [Below.heap_setCell _ _ _ _ (by exact hk)]; exact h.block k hk⟩
theorem Turned.below {b X : Nat} {w w' : World} (h : Turned b w w') (hX : X ≤ b) : Below X w w' := ⟨h.os, h.tape, h.output, Nat.le_of_eq h.size.symm, fun k hk => h.block k (by omega)⟩
theorem rangeAt_below {w w' : World} {X b o : Nat} {cs : List Value} (h : w.rangeAt b o cs) (hb : Below X w w') (hB : b < X) : w'.rangeAt b o cs := fun j v hv =>
  (hb.cell (by exact hB)).trans (h j v hv)
theorem there_below {w w' : World} {X b o n : Nat} (h : w.there b o n) (hb : Below X w w') (hB : b < X) : w'.there b o n := fun j hj => by
  have e1 : w'.cell? ⟨b, o + j, none⟩ = w.cell? ⟨b, o + j, none⟩ := hb.cell (by exact hB)
  have e2 : w'.frozen? ⟨b, o + j, none⟩ = w.frozen? ⟨b, o + j, none⟩ := hb.frozen (by exact hB)
  rw [e1, e2]; exact h j hj
theorem Turned.range {b c o : Nat} {w w' : World} {xs : List Value} (h : Turned b w w') (hc : c ≠ b) (hr : w.rangeAt c o xs) : w'.rangeAt c o xs := fun j v hv =>
  (World.cell?_of_block (w := w) (a := ⟨c, o + j, none⟩) (h.block c hc)).trans (hr j v hv)
theorem Turned.cell {b : Nat} {a : Addr} {w w' : World} (h : Turned b w w') (hc : a.block ≠ b) : w'.cell? a = w.cell? a := World.cell?_of_block (h.block _ hc)

theorem Yba.info28 : (Yba.prog.info? 28).map (fun i => (i.zero, i.size, i.bytes)) = some (some (.agg #[.int .u64 0, .int .i64 0, .pointer none]), 3, 24) := by kernel_rfl

/-- 'copy(dst, src)', both n elements of 3 cells, dst a row of the call's own. -/
theorem wpList_copy_rows {w : World} {ops : Array Oper} {rest : List Oper} {o : Oper} {a : Act} {Q : Exit → Act → World → Prop} (hgd : o.guard = none) (d s : Operand)
    (ho : o.op = .call { callee := .builtin .copy, args := #[d, s], argTypes := #[24, 24] })
    (bd bs n cd cs : Nat) (hd : a.eval d = .slice (some ⟨bd, 0, none⟩) n cd) (hs : a.eval s = .slice (some ⟨bs, 0, none⟩) n cs)
    (xs : List Value) (hl : xs.length = n * 3) (hsrc : w.rangeAt bs 0 xs) (hth : w.there bd 0 (n * 3)) (h1 : ∀ v ∈ xs, v.oneCell' = true)
    (h : ∀ w', Turned bd w w' → w'.rangeAt bd 0 xs → wpList Yba.prog ops Q rest (a.put o.dst (goInt n)) w') : wpList Yba.prog ops Q (o :: rest) a w := by
  refine wpList_plain hgd fun K hK => ?_
  have hld := run_loadCells_list (P := Yba.prog) w ⟨bs, 0, none⟩ xs (fun j v hv => by rw [Addr.add_mid]; exact hsrc j v hv)
  have hst := run_storeCells_cells (P := Yba.prog) bd 0 xs 0 w (fun j hj => by simpa using (hth j (by omega)).1) (fun j hj => by simpa using (hth j (by omega)).2) h1
  have hrun : (Builtin.copy_ #[24, 24] o.type #[.slice (some ⟨bd, 0, none⟩) n cd, .slice (some ⟨bs, 0, none⟩) n cs]).run Yba.prog w = .ok (goInt n) (w.setCells bd 0 xs) := by
    cases hq : Yba.prog.info? 28 with
    | none => have := Yba.size28; simp [hq] at this
    | some i =>
      have hi : i.size = 3 := by have := Yba.size28; simpa [hq] using this
      have hm : Nat.min n n = n := Nat.min_self n
      rw [hl] at hld
      simp [Builtin.copy_, run_underlying Yba.underlying24, Builtin.lenOf, Builtin.firstCells, sizeOf, typeInfo, hq, hi, hm, hld, hst]
  unfold Oper.wp
  simp [execOp, ho, resolve, invoke, builtin, hd, hs, hrun, Result.andThen]
  exact hK _ _ (h _ (Turned.setCells _ _ _ _ _ (Turned.refl _ _)) (World.rangeAt_setCells_same _ _ _ _ (by rw [hl]; exact hth)))

/-- 'copy(dst, nil)'. -/
theorem wpList_copy_none {w : World} {ops : Array Oper} {rest : List Oper} {o : Oper} {a : Act} {Q : Exit → Act → World → Prop} (hgd : o.guard = none) (d s : Operand)
    (ho : o.op = .call { callee := .builtin .copy, args := #[d, s], argTypes := #[24, 24] })
    (bd cd : Nat) (hd : a.eval d = .slice (some ⟨bd, 0, none⟩) 0 cd) (hs : a.eval s = .slice none 0 0)
    (h : wpList Yba.prog ops Q rest (a.put o.dst (goInt 0)) w) : wpList Yba.prog ops Q (o :: rest) a w := by
  refine wpList_plain hgd fun K hK => ?_
  have hrun : (Builtin.copy_ #[24, 24] o.type #[.slice (some ⟨bd, 0, none⟩) 0 cd, .slice none 0 0]).run Yba.prog w = .ok (goInt 0) w := by
    cases hq : Yba.prog.info? 28 with
    | none => have := Yba.size28; simp [hq] at this
    | some i =>
      have hi : i.size = 3 := by have := Yba.size28; simpa [hq] using this
      simp [Builtin.copy_, run_underlying Yba.underlying24, Builtin.lenOf, Builtin.firstCells, sizeOf, typeInfo, hq, storeCells, Result.andThen]
  unfold Oper.wp
  simp [execOp, ho, resolve, invoke, builtin, hd, hs, hrun, Result.andThen]
  exact hK _ _ h

/-- A store of a whole time, and what is known behind it. -/
theorem wpList_store_turned {w : World} {ops : Array Oper} {rest : List Oper} {o : Oper} {a : Act} {Q : Exit → Act → World → Prop} (hgd : o.guard = none) (x y : Operand) (ho : o.op = .store 28 x y)
    (b k : Nat) (cs : List Value) (hx : a.eval x = .pointer (some ⟨b, k, none⟩)) (hy : a.eval y = .agg cs.toArray) (hl : IsTm cs) (hth : w.there b k 3)
    (h : wpList Yba.prog ops Q rest (a.put o.dst undef) (w.setCells b k cs)) : wpList Yba.prog ops Q (o :: rest) a w :=
  wpList_store_mid hgd 28 x y ho b k cs.toArray hx hy (by simpa [hl.length] using hth) (by rw [Yba.size28]; simp [hl.length]) (all_oneCell_toArray hl.one)
    (by simpa using h)

theorem there_of_owns {w : World} {base e sz g n cap : Nat} {xs : List Value} (h : w.ownsRow base e sz (.slice (some ⟨g, 0, none⟩) n cap) n xs) : w.there g 0 (n * sz) := fun j hj => by
  rw [Nat.zero_add]
  refine ⟨?_, h.frozenAt j⟩
  rw [h.cellAt j hj, List.getElem?_eq_getElem (by rw [h.1]; exact hj)]; rfl
theorem lt_of_owns {w : World} {base e sz g n cap : Nat} {xs : List Value} (h : w.ownsRow base e sz (.slice (some ⟨g, 0, none⟩) n cap) n xs) : g < w.heap.size := by
  obtain ⟨_, h | ⟨g', c', cur, hv, _, hb, _⟩⟩ := h
  · cases h.1
  · cases hv
    by_cases hl : g < w.heap.size
    · exact hl
    · rw [Array.getElem?_eq_none (by omega)] at hb; cases hb

/-- What '!=' on two times does, behind a name that the walk does not open. -/
def neq28 (P : Program) (x y : Operand) (v u : Value) (w : World) : Result Next := (do let r ← (do eqGuard .neq 28 x y v u; binOp .neq 28 v u); pure (Next.value r) : Sem Next).run P w
theorem exec_neq28 (ρ : Operand → Value) (d : Option Tmp) (x y : Operand) (t' ty : TypeId) (pos : String) (af : Array Edge) (g : Option (Nat × Bool)) (w : World) :
    (execOp ρ ⟨d, .binOp .neq 28 x y t', ty, pos, af, g⟩).run Yba.prog w = neq28 Yba.prog x y (ρ x) (ρ y) w := rfl
set_option maxRecDepth 100000 in
theorem eq_self' (a b : Int) (w : World) :
    (Op.equalIn 10000 28 (.agg #[.int .u64 a, .int .i64 b, .pointer none]) (.agg #[.int .u64 a, .int .i64 b, .pointer none])).run Yba.prog w = .ok true w := by
  have hp : (Op.equalIn 9999 26 (Value.pointer none) (Value.pointer none)).run Yba.prog w = .ok true w := by kernel_rfl
  simp [go_sem, hp, Result.andThen]
theorem neq28_self (x y : Operand) (a b : Int) (w : World) : neq28 Yba.prog x y (.agg #[.int .u64 a, .int .i64 b, .pointer none]) (.agg #[.int .u64 a, .int .i64 b, .pointer none]) w = .ok (.value (.bool false)) w := by
  have hg := run_eqGuard_agg (P := Yba.prog) w .neq 28 x y #[.int .u64 a, .int .i64 b, .pointer none] #[.int .u64 a, .int .i64 b, .pointer none] (by kernel_rfl)
  unfold neq28
  simp only [Sem.run_bind, hg, Result.andThen_ok, run_neq_struct, eq_self', Sem.run_pure]
  rfl
end Go.Proofs.Ybulkecoq
