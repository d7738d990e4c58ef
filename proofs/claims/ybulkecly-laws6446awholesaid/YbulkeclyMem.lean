import Derived.Test.YbulkeclyPlace
namespace Go.Proofs.Ybulkecly
open Go.RowKit

theorem rangeAt_append {w : World} {b o : Nat} {xs ys : List Value} : w.rangeAt b o (xs ++ ys) ↔ w.rangeAt b o xs ∧ w.rangeAt b (o + xs.length) ys := by
  constructor
  · intro h
    refine ⟨fun j v hv => h j v (by rw [List.getElem?_append_left (List.getElem?_eq_some_iff.1 hv).1]; exact hv), fun j v hv => ?_⟩
    have := h (xs.length + j) v (by rw [List.getElem?_append_right (by omega), Nat.add_sub_cancel_left]; exact hv)
    rwa [← Nat.add_assoc] at this
  · intro ⟨h1, h2⟩ j v hv
    by_cases hj : j < xs.length
    · rw [List.getElem?_append_left hj] at hv
      exact h1 j v hv
    · rw [List.getElem?_append_right (by omega)] at hv
      have := h2 (j - xs.length) v hv
      rwa [show o + xs.length + (j - xs.length) = o + j by omega] at this

/-- The rows 0 .. n-1, one behind the other. -/
def rowsL (R : Nat → List Value) : Nat → List Value
  | 0 => []
  | n + 1 => rowsL R n ++ R n

theorem length_rowsL {R : Nat → List Value} (hR : ∀ i, (R i).length = 18) : ∀ n, (rowsL R n).length = n * 18
  | 0 => by simp [rowsL]
  | n + 1 => by rw [rowsL, List.length_append, length_rowsL hR n, hR]; omega

theorem row_of_rowsL {R : Nat → List Value} (hR : ∀ i, (R i).length = 18) {w : World} {b : Nat} : ∀ {n : Nat}, w.rangeAt b 0 (rowsL R n) → ∀ j, j < n → w.rangeAt b (j * 18) (R j)
  | n + 1, h, j, hj => by
    rw [rowsL, rangeAt_append, length_rowsL hR, Nat.zero_add] at h
    by_cases e : j = n
    · subst e; exact h.2
    · exact row_of_rowsL hR h.1 j (by omega)

theorem rowsL_oneCell {R : Nat → List Value} (hR : ∀ i, ∀ v ∈ R i, v.oneCell' = true) : ∀ n, ∀ v ∈ rowsL R n, v.oneCell' = true
  | 0, v, hv => by simp [rowsL] at hv
  | n + 1, v, hv => by
    rw [rowsL, List.mem_append] at hv
    rcases hv with hv | hv
    · exact rowsL_oneCell hR n v hv
    · exact hR n v hv

/-- 'copy(dst, src)', both n elements of 18 cells, dst a row of the call's own. -/
theorem wpList_copy_rows {w : World} {ops : Array Oper} {rest : List Oper} {o : Oper} {a : Act} {Q : Exit → Act → World → Prop} (hgd : o.guard = none) (d s : Operand)
    (ho : o.op = .call { callee := .builtin .copy, args := #[d, s], argTypes := #[27, 27] })
    (bd bs n cd cs : Nat) (hd : a.eval d = .slice (some ⟨bd, 0, none⟩) n cd) (hs : a.eval s = .slice (some ⟨bs, 0, none⟩) n cs)
    (xs : List Value) (hl : xs.length = n * 18) (hsrc : w.rangeAt bs 0 xs) (hth : w.there bd 0 (n * 18)) (h1 : ∀ v ∈ xs, v.oneCell' = true)
    (h : wpList Yba.prog ops Q rest (a.put o.dst (goInt n)) (w.setCells bd 0 xs)) : wpList Yba.prog ops Q (o :: rest) a w := by
  refine wpList_plain hgd fun K hK => ?_
  have hld := run_loadCells_list (P := Yba.prog) w ⟨bs, 0, none⟩ xs (fun j v hv => by rw [Addr.add_mid]; exact hsrc j v hv)
  have hst := run_storeCells_cells (P := Yba.prog) bd 0 xs 0 w (fun j hj => by simpa using (hth j (by omega)).1) (fun j hj => by simpa using (hth j (by omega)).2) h1
  have hrun : (Builtin.copy_ #[27, 27] o.type #[.slice (some ⟨bd, 0, none⟩) n cd, .slice (some ⟨bs, 0, none⟩) n cs]).run Yba.prog w = .ok (goInt n) (w.setCells bd 0 xs) := by
    cases hq : Yba.prog.info? 29 with
    | none => have := Yba.size29; simp [hq] at this
    | some i =>
      have hi : i.size = 18 := by have := Yba.size29; simpa [hq] using this
      have hm : Nat.min n n = n := Nat.min_self n
      rw [hl] at hld
      simp [Builtin.copy_, run_underlying Yba.underlying27, Builtin.lenOf, Builtin.firstCells, sizeOf, typeInfo, hq, hi, hm, hld, hst]
  unfold Oper.wp
  simp [execOp, ho, resolve, invoke, builtin, hd, hs, hrun, Result.andThen]
  exact hK _ _ h

/-- A build of two or three parts, its run handed in. -/
theorem wpList_build2 {P : Program} {w : World} {ops : Array Oper} {rest : List Oper} {o : Oper} {a : Act} {Q : Exit → Act → World → Prop} (hgd : o.guard = none) (t i0 i1 : Nat) (x0 x1 : Operand)
    (ho : o.op = .build t #[(i0, x0), (i1, x1)]) (v0 v1 : Value) (h0 : a.eval x0 = v0) (h1 : a.eval x1 = v1) (v : Value) (hrun : (Instr.build t #[(i0, v0), (i1, v1)]).run P w = .ok v w)
    (h : wpList P ops Q rest (a.put o.dst v) w) : wpList P ops Q (o :: rest) a w := by
  refine wpList_plain hgd fun K hK => ?_
  subst h0 h1
  unfold Oper.wp execOp
  simp only [ho, Sem.run_bind, List.map_toArray, List.map_cons, List.map_nil, hrun, Result.andThen_ok]
  exact hK _ _ h

theorem wpList_build3 {P : Program} {w : World} {ops : Array Oper} {rest : List Oper} {o : Oper} {a : Act} {Q : Exit → Act → World → Prop} (hgd : o.guard = none) (t i0 i1 i2 : Nat) (x0 x1 x2 : Operand)
    (ho : o.op = .build t #[(i0, x0), (i1, x1), (i2, x2)]) (v0 v1 v2 : Value) (h0 : a.eval x0 = v0) (h1 : a.eval x1 = v1) (h2 : a.eval x2 = v2) (v : Value) (hrun : (Instr.build t #[(i0, v0), (i1, v1), (i2, v2)]).run P w = .ok v w)
    (h : wpList P ops Q rest (a.put o.dst v) w) : wpList P ops Q (o :: rest) a w := by
  refine wpList_plain hgd fun K hK => ?_
  subst h0 h1 h2
  unfold Oper.wp execOp
  simp only [ho, Sem.run_bind, List.map_toArray, List.map_cons, List.map_nil, hrun, Result.andThen_ok]
  exact hK _ _ h

/-- A key's cells; a slot's cells. -/
def keyL (ks : List Int) : List Value := ks.map (Value.int .u8)
def slotL (e : Int) (ks : List Int) (s : Int) : List Value := .int .i64 e :: (keyL ks ++ [.int .i64 s])
def zk : List Int := [0, 0, 0, 0, 0, 0, 0, 0, 0, 0, 0, 0, 0, 0, 0, 0]
def fk (a b : Int) : List Int := [a, b, 0, 0, 0, 0, 0, 0, 0, 0, 0, 0, 0, 0, 0, 0]

theorem length_slotL {e s : Int} {ks : List Int} (h : ks.length = 16) : (slotL e ks s).length = 18 := by simp [slotL, keyL, h]
theorem slotL_oneCell (e s : Int) (ks : List Int) : ∀ v ∈ slotL e ks s, v.oneCell' = true := by
  intro v hv
  simp only [slotL, keyL, List.mem_cons, List.mem_append, List.mem_map, List.not_mem_nil, or_false] at hv
  rcases hv with rfl | ⟨k, _, rfl⟩ | rfl <;> rfl
theorem slotL_stamp {e s : Int} {ks : List Int} (h : ks.length = 16) : (slotL e ks s)[17]? = some (.int .i64 s) := by
  rw [slotL, List.getElem?_cons_succ, List.getElem?_append_right (by simp [keyL, h])]
  simp [keyL, h]

theorem run_build26 (a b : Int) (w : World) : (Instr.build 26 #[(0, .int .u8 a), (1, .int .u8 b)]).run Yba.prog w = .ok (.agg (keyL (fk a b)).toArray) w := by kernel_rfl
theorem run_build29v (e m : Int) (w : World) : (Instr.build 29 #[(0, .int .i64 e), (2, .int .i64 m)]).run Yba.prog w = .ok (.agg (slotL e zk m).toArray) w := by kernel_rfl
theorem list16 (l : List Int) (h : l.length = 16) : ∃ a b c d e f g h i j k m n o p q, l = [a, b, c, d, e, f, g, h, i, j, k, m, n, o, p, q] := by
  match l, h with
  | [a, b, c, d, e, f, g, h, i, j, k, m, n, o, p, q], _ => exact ⟨a, b, c, d, e, f, g, h, i, j, k, m, n, o, p, q, rfl⟩
theorem run_build29' (e s a b c d e' f g h i j k m n o p q : Int) (w : World) : (Instr.build 29 #[(0, .int .i64 e), (1, .agg (keyL [a, b, c, d, e', f, g, h, i, j, k, m, n, o, p, q]).toArray), (2, .int .i64 s)]).run Yba.prog w = .ok (.agg (slotL e [a, b, c, d, e', f, g, h, i, j, k, m, n, o, p, q] s).toArray) w := by kernel_rfl
theorem run_build29 (e s : Int) (ks : List Int) (hk : ks.length = 16) (w : World) : (Instr.build 29 #[(0, .int .i64 e), (1, .agg (keyL ks).toArray), (2, .int .i64 s)]).run Yba.prog w = .ok (.agg (slotL e ks s).toArray) w := by
  obtain ⟨a, b, c, d, e', f, g, h, i, j, k, m, n, o, p, q, rfl⟩ := list16 ks hk
  exact run_build29' e s a b c d e' f g h i j k m n o p q w
end Go.Proofs.Ybulkecly
