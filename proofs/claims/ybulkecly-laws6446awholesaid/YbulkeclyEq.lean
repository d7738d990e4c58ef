import Derived.Test.YbulkeclyMem
import Derived.ChangeKeysEq
namespace Go.Proofs.Ybulkecly
open Go.RowKit

/-- 18 cells that are a slot. -/
def IsSlot (xs : Array Value) : Prop := ∃ (e : Int) (ks : List Int) (s : Int), ks.length = 16 ∧ xs = (slotL e ks s).toArray

/-- What '!=' on two slots does, behind a name that the walk does not open. -/
def neq29 (P : Program) (x y : Operand) (v u : Value) (w : World) : Result Next := (do let r ← (do eqGuard .neq 29 x y v u; binOp .neq 29 v u); pure (Next.value r) : Sem Next).run P w

theorem exec_neq29 (ρ : Operand → Value) (d : Option Tmp) (x y : Operand) (t' ty : TypeId) (pos : String) (af : Array Edge) (g : Option (Nat × Bool)) (w : World) :
    (execOp ρ ⟨d, .binOp .neq 29 x y t', ty, pos, af, g⟩).run Yba.prog w = neq29 Yba.prog x y (ρ x) (ρ y) w := rfl

theorem Yba.cells5 : Yba.prog.cellsOf 5 = 1 := by kernel_rfl
theorem Yba.info5 : (Yba.prog.info? 5).isSome = true := by kernel_rfl

set_option maxRecDepth 100000 in
theorem eq_self' (e s a b c d e' f g h i j k m n o p q : Int) (w : World) :
    (Op.equalIn 10000 29 (.agg (slotL e [a, b, c, d, e', f, g, h, i, j, k, m, n, o, p, q] s).toArray) (.agg (slotL e [a, b, c, d, e', f, g, h, i, j, k, m, n, o, p, q] s).toArray)).run Yba.prog w = .ok true w := by
  obtain ⟨i5, hi5⟩ := Option.isSome_iff_exists.1 Yba.info5
  have hr : List.range 16 = [0, 1, 2, 3, 4, 5, 6, 7, 8, 9, 10, 11, 12, 13, 14, 15] := by decide
  simp only [slotL, keyL, List.map_cons, List.map_nil, List.cons_append, List.nil_append]
  simp [go_sem, run_equalIn_array w 9998 _ _ Yba.underlying26 hi5, Yba.cells5, hr, Op.eqItems]

theorem neq29_self (x y : Operand) (xs : Array Value) (w : World) (h : IsSlot xs) : neq29 Yba.prog x y (.agg xs) (.agg xs) w = .ok (.value (.bool false)) w := by
  obtain ⟨e, ks, s, hk, rfl⟩ := h
  obtain ⟨a, b, c, d, e', f, g, h, i, j, k, m, n, o, p, q, rfl⟩ := list16 ks hk
  have hg := run_eqGuard_agg (P := Yba.prog) w .neq 29 x y (slotL e [a, b, c, d, e', f, g, h, i, j, k, m, n, o, p, q] s).toArray (slotL e [a, b, c, d, e', f, g, h, i, j, k, m, n, o, p, q] s).toArray (by kernel_rfl)
  unfold neq29
  simp only [Sem.run_bind, hg, Result.andThen_ok, run_neq_struct, eq_self', Sem.run_pure]
  rfl
end Go.Proofs.Ybulkecly
