import Derived.Test.YbulkeclyEq
namespace Go.Proofs.Ybulkecly
open Go.RowKit

/-- What stands behind 'place': T the table, Bs its slots, Bb the copy of what they were, S the slot that was placed (the cells cs), tg where it went. -/
structure After (R : Nat → List Value) (cs : List Value) (T Bs Bb S n tg : Nat) (used depth : Int) (W w : World) : Prop where
  below : Below W.heap.size W w
  tl : T < w.heap.size
  bsl : Bs < w.heap.size
  bbl : Bb < w.heap.size
  sl : S < w.heap.size
  t0 : w.cell? ⟨T, 0, none⟩ = some (.slice (some ⟨Bs, 0, none⟩) n n)
  t1 : w.cell? ⟨T, 1, none⟩ = some (.int .i64 used)
  t2 : w.cell? ⟨T, 2, none⟩ = some (.int .u64 depth)
  old : ∀ j, j < n → w.rangeAt Bb (j * 18) (R j)
  now : ∀ j, j < n → w.rangeAt Bs (j * 18) (if j = tg then cs else R j)
  s : w.rangeAt S 0 cs

theorem rangeAt_below {w w' : World} {X b o : Nat} {cs : List Value} (h : w.rangeAt b o cs) (hb : Below X w w') (hB : b < X) : w'.rangeAt b o cs := fun j v hv =>
  (hb.cell (by exact hB)).trans (h j v hv)

theorem After.next {R : Nat → List Value} {cs : List Value} {T Bs Bb S n tg : Nat} {used depth : Int} {W w w' : World} (h : After R cs T Bs Bb S n tg used depth W w) (hb : Below w.heap.size w w') : After R cs T Bs Bb S n tg used depth W w' :=
  ⟨h.below.trans (hb.mono h.below.size), Nat.lt_of_lt_of_le h.tl hb.size, Nat.lt_of_lt_of_le h.bsl hb.size, Nat.lt_of_lt_of_le h.bbl hb.size, Nat.lt_of_lt_of_le h.sl hb.size,
    (hb.cell (by exact h.tl)).trans h.t0, (hb.cell (by exact h.tl)).trans h.t1, (hb.cell (by exact h.tl)).trans h.t2,
    fun j hj => rangeAt_below (h.old j hj) hb h.bbl, fun j hj => rangeAt_below (h.now j hj) hb h.bsl, rangeAt_below h.s hb h.sl⟩

/-- A store of whole rows turns no block but its own. -/
theorem heap_setCells (b : Nat) : ∀ (vs : List Value) (o : Nat) (w : World) (k : Nat), k ≠ b → (w.setCells b o vs).heap[k]? = w.heap[k]?
  | [], _, _, _, _ => rfl
  | v :: r, o, w, k, h => by
    rw [World.setCells, heap_setCells b r (o + 1) _ k h]
    exact Below.heap_setCell _ _ _ _ (by exact h)
theorem size_setCells (b : Nat) : ∀ (vs : List Value) (o : Nat) (w : World), (w.setCells b o vs).heap.size = w.heap.size
  | [], _, _ => rfl
  | v :: r, o, w => by rw [World.setCells, size_setCells b r (o + 1) _]; simp
theorem below_setCells {X : Nat} (b : Nat) (hX : X ≤ b) : ∀ (vs : List Value) (o : Nat) (w w0 : World), Below X w0 w → Below X w0 (w.setCells b o vs)
  | [], _, _, _, h => h
  | v :: r, o, w, w0, h => by
    rw [World.setCells]
    exact below_setCells b hX r (o + 1) _ _ (h.setCell (by exact hX) v)

theorem rangeAt_setCell_other {w : World} {b o : Nat} {cs : List Value} (h : w.rangeAt b o cs) (a : Addr) (v : Value) (hne : a.block ≠ b) : (w.setCell a v).rangeAt b o cs := fun j u hu => by
  rw [World.cell?_setCell_other _ _ _ _ (fun e => hne (by rw [e]))]
  exact h j u hu

/-- Only block b has turned. -/
structure Turned (b : Nat) (w w' : World) : Prop where
  os : w'.os = w.os
  tape : w'.tape = w.tape
  output : w'.output = w.output
  size : w'.heap.size = w.heap.size
  block : ∀ k, k ≠ b → w'.heap[k]? = w.heap[k]?
theorem Turned.setCells (b : Nat) : ∀ (vs : List Value) (o : Nat) (w w0 : World), Turned b w0 w → Turned b w0 (w.setCells b o vs)
  | [], _, _, _, h => h
  | v :: r, o, w, w0, h => by
    rw [World.setCells]
    exact Turned.setCells b r (o + 1) _ _ ⟨h.os, h.tape, h.output, by rw [← h.size]; simp, fun k hk => by rw [Below.heap_setCell _ _ _ _ (by exact hk)]; exact h.block k hk⟩
theorem Turned.below {b X : Nat} {w w' : World} (h : Turned b w w') (hX : X ≤ b) : Below X w w' := ⟨h.os, h.tape, h.output, Nat.le_of_eq h.size.symm, fun k hk => h.block k (by omega)⟩
theorem Turned.range {b c o : Nat} {w w' : World} {xs : List Value} (h : Turned b w w') (hc : c ≠ b) (hr : w.rangeAt c o xs) : w'.rangeAt c o xs := fun j v hv =>
  (World.cell?_of_block (w := w) (a := ⟨c, o + j, none⟩) (h.block c hc)).trans (hr j v hv)
theorem Turned.there {b c o n : Nat} {w w' : World} (h : Turned b w w') (hc : c ≠ b) (hr : w.there c o n) : w'.there c o n := fun j hj => by
  rw [World.cell?_of_block (w := w) (a := ⟨c, o + j, none⟩) (h.block c hc), World.frozen?_of_block (w := w) (a := ⟨c, o + j, none⟩) (h.block c hc)]
  exact hr j hj

/-- 'copy', and what is known behind it. -/
theorem wpList_copy_turned {w : World} {ops : Array Oper} {rest : List Oper} {o : Oper} {a : Act} {Q : Exit → Act → World → Prop} (hgd : o.guard = none) (d s : Operand)
    (ho : o.op = .call { callee := .builtin .copy, args := #[d, s], argTypes := #[27, 27] })
    (bd bs n cd cs : Nat) (hd : a.eval d = .slice (some ⟨bd, 0, none⟩) n cd) (hs : a.eval s = .slice (some ⟨bs, 0, none⟩) n cs)
    (xs : List Value) (hl : xs.length = n * 18) (hsrc : w.rangeAt bs 0 xs) (hth : w.there bd 0 (n * 18)) (h1 : ∀ v ∈ xs, v.oneCell' = true)
    (h : ∀ w', Turned bd w w' → w'.rangeAt bd 0 xs → wpList Yba.prog ops Q rest (a.put o.dst (goInt n)) w') : wpList Yba.prog ops Q (o :: rest) a w :=
  wpList_copy_rows hgd d s ho bd bs n cd cs hd hs xs hl hsrc hth h1 (h _ (Turned.setCells _ _ _ _ _ ⟨rfl, rfl, rfl, rfl, fun _ _ => rfl⟩) (World.rangeAt_setCells_same _ _ _ _ (by rw [hl]; exact hth)))

/-- A store of a whole slot at the head of a block, and what is known behind it. -/
theorem wpList_store_turned {w : World} {ops : Array Oper} {rest : List Oper} {o : Oper} {a : Act} {Q : Exit → Act → World → Prop} (hgd : o.guard = none) (x y : Operand) (ho : o.op = .store 29 x y)
    (b : Nat) (cs : List Value) (hx : a.eval x = .pointer (some ⟨b, 0, none⟩)) (hy : a.eval y = .agg cs.toArray) (hl : cs.length = 18) (h1 : ∀ v ∈ cs, v.oneCell' = true) (hth : w.there b 0 18)
    (h : ∀ w', Turned b w w' → w'.rangeAt b 0 cs → w'.there b 0 18 → wpList Yba.prog ops Q rest (a.put o.dst undef) w') : wpList Yba.prog ops Q (o :: rest) a w :=
  wpList_store_mid hgd 29 x y ho b 0 cs.toArray hx hy (by simpa [hl] using hth) (by rw [Yba.size29]; simp [hl]) (all_oneCell_toArray h1)
    (by simpa using h _ (Turned.setCells _ cs 0 _ _ ⟨rfl, rfl, rfl, rfl, fun _ _ => rfl⟩) (World.rangeAt_setCells_same _ _ _ _ (by rw [hl]; exact hth)) (World.there_setCells hth _ _ _))

theorem there_new (w : World) (Z : Array Value) (t : TypeId) : (w.alloc (.cells Z t)).there w.heap.size 0 Z.size := fun j hj => by
  have hh : (w.alloc (.cells Z t)).heap[w.heap.size]? = some (.cells Z t (0, 0)) := heap_alloc_new _ _
  rw [cell_of_row _ _ (0 + j) Z t (0, 0) hh, frozen_of_row _ _ (0 + j) Z t hh]
  exact ⟨by simp [hj], rfl⟩

theorem there_new' (w : World) (Z : Array Value) (t : TypeId) (b n : Nat) (hb : b = w.heap.size) (hn : n = Z.size) : (w.alloc (.cells Z t)).there b 0 n := by
  subst hb; subst hn; exact there_new w Z t

/-- What stands as 'place' is called. -/
structure Before (R : Nat → List Value) (cs : List Value) (T Bs Bb S n : Nat) (used depth : Int) (W w : World) : Prop where
  below : Below W.heap.size W w
  tl : T < w.heap.size
  bsl : Bs < w.heap.size
  bbl : Bb < w.heap.size
  sl : S < w.heap.size
  t0 : w.cell? ⟨T, 0, none⟩ = some (.slice (some ⟨Bs, 0, none⟩) n n)
  t1 : w.cell? ⟨T, 1, none⟩ = some (.int .i64 used)
  t2 : w.cell? ⟨T, 2, none⟩ = some (.int .u64 depth)
  f1 : w.frozen? ⟨T, 1, none⟩ = false
  old : w.rangeAt Bb 0 (rowsL R n)
  now : w.rangeAt Bs 0 (rowsL R n)
  th : w.there Bs 0 (n * 18)
  s : w.rangeAt S 0 cs

theorem before_mk {R : Nat → List Value} {cs ks : List Value} {n : Nat} {used depth : Int} {Z : Array Value} {w wr w2 w3 w4 : World} 
    (hb2 : Below (w.heap.size + 1) (w.alloc (.cells ks.toArray 26)) wr) (hs2 : w.heap.size + 1 < wr.heap.size) (hth2 : wr.there (w.heap.size + 1) 0 (n * 18)) (hb3 : Below wr.heap.size wr w2) (hs3 : wr.heap.size < w2.heap.size)
    (hsrc : w2.rangeAt (w.heap.size + 1) 0 (rowsL R n)) (htu : Turned wr.heap.size w2 w3) (hcp : w3.rangeAt wr.heap.size 0 (rowsL R n))
    (htu4 : Turned (w3.heap.size + 1) ((w3.alloc (.cells #[.slice (some ⟨w.heap.size + 1, 0, none⟩) n n, .int .i64 used, .int .u64 depth] 32)).alloc (.cells Z 29)) w4) (hS4 : w4.rangeAt (w3.heap.size + 1) 0 cs) :
    Before R cs w3.heap.size (w.heap.size + 1) wr.heap.size (w3.heap.size + 1) n used depth w w4 := by
  have hz3 := htu.size
  obtain ⟨v, hv⟩ : ∃ v, v = (w3.alloc (.cells #[.slice (some ⟨w.heap.size + 1, 0, none⟩) n n, .int .i64 used, .int .u64 depth] 32)).alloc (.cells Z 29) := ⟨_, rfl⟩
  rw [← hv] at htu4
  have hbv : Below w3.heap.size w3 v := by rw [hv]; exact ((Below.refl _ _).alloc (Nat.le_refl _) _).alloc (by simp) _
  have hzv : v.heap.size = w3.heap.size + 2 := by rw [hv]; simp
  have hz4 := htu4.size
  have hblk : v.heap[w3.heap.size]? = some (.cells #[.slice (some ⟨w.heap.size + 1, 0, none⟩) n n, .int .i64 used, .int .u64 depth] 32 (0, 0)) := by
    rw [hv, Below.heap_alloc _ _ _ (by simp)]; exact heap_alloc_new _ _
  have hblk4 : w4.heap[w3.heap.size]? = some (.cells #[.slice (some ⟨w.heap.size + 1, 0, none⟩) n n, .int .i64 used, .int .u64 depth] 32 (0, 0)) := by
    rw [htu4.block _ (by omega)]; exact hblk
  have hw : Below w.heap.size w wr := ((Below.refl w.heap.size w).alloc (Nat.le_refl _) _).trans (hb2.mono (by omega))
  have hw2 : Below w.heap.size w w2 := hw.trans (hb3.mono (by omega))
  have hw3 : Below w.heap.size w w3 := hw2.trans (htu.below (by omega))
  have hwv : Below w.heap.size w v := hw3.trans (hbv.mono (by omega))
  refine ⟨hwv.trans (htu4.below (by omega)), by omega, by omega, by omega, by omega, ?_, ?_, ?_, ?_, ?_, ?_, ?_, hS4⟩
  · rw [cell_of_row _ _ _ _ _ _ hblk4]; rfl
  · rw [cell_of_row _ _ _ _ _ _ hblk4]; rfl
  · rw [cell_of_row _ _ _ _ _ _ hblk4]; rfl
  · rw [frozen_of_row _ _ _ _ _ hblk4]
  · exact htu4.range (by omega) (rangeAt_below hcp hbv (by omega))
  · exact htu4.range (by omega) (rangeAt_below (htu.range (by omega) hsrc) hbv (by omega))
  · refine htu4.there (by omega) ?_
    intro j hj
    have h3 : w3.there (w.heap.size + 1) 0 (n * 18) := htu.there (by omega) (fun j hj => by
      have e1 : w2.cell? ⟨w.heap.size + 1, 0 + j, none⟩ = wr.cell? ⟨w.heap.size + 1, 0 + j, none⟩ := hb3.cell (by exact hs2)
      have e2 : w2.frozen? ⟨w.heap.size + 1, 0 + j, none⟩ = wr.frozen? ⟨w.heap.size + 1, 0 + j, none⟩ := hb3.frozen (by exact hs2)
      rw [e1, e2]; exact hth2 j hj)
    have e1 : v.cell? ⟨w.heap.size + 1, 0 + j, none⟩ = w3.cell? ⟨w.heap.size + 1, 0 + j, none⟩ := hbv.cell (by show w.heap.size + 1 < w3.heap.size; omega)
    have e2 : v.frozen? ⟨w.heap.size + 1, 0 + j, none⟩ = w3.frozen? ⟨w.heap.size + 1, 0 + j, none⟩ := hbv.frozen (by show w.heap.size + 1 < w3.heap.size; omega)
    rw [e1, e2]; exact h3 j hj

/-- FROM 'place_any' TO WHAT THE LAW ASKS. -/
theorem after_place {R : Nat → List Value} {cs : List Value} {T Bs Bb S n tg q : Nat} {used depth : Int} {W w : World} (hR : ∀ i, (R i).length = 18) (hcs : cs.length = 18) (htg : tg < n)
    (hb : Below W.heap.size W w) (hT : T < w.heap.size) (hBs : Bs < w.heap.size) (hBb : Bb < w.heap.size) (hS : S < w.heap.size) (hWT : W.heap.size ≤ T) (hWB : W.heap.size ≤ Bs)
    (hTB : T ≠ Bs) (hTb : T ≠ Bb) (hTS : T ≠ S) (hbb : Bb ≠ Bs) (hSB : S ≠ Bs)
    (c0 : w.cell? ⟨T, 0, none⟩ = some (.slice (some ⟨Bs, 0, none⟩) n n)) (c1 : w.cell? ⟨T, 1, none⟩ = some (.int .i64 used)) (c2 : w.cell? ⟨T, 2, none⟩ = some (.int .u64 depth))
    (old : w.rangeAt Bb 0 (rowsL R n)) (now : w.rangeAt Bs 0 (rowsL R n)) (th : w.there Bs 0 (n * 18)) (s : w.rangeAt S 0 cs) :
    After R cs T Bs Bb S n tg (wrap64 (used + 1)) depth W ((((w.alloc (.cells cs.toArray 29)).setCells Bs (tg * 18) cs).setCell ⟨T, 1, none⟩ (.int .i64 (wrap64 (used + 1)))).drewN q) := by
  obtain ⟨w1, hw1⟩ : ∃ w1, w1 = w.alloc (.cells cs.toArray 29) := ⟨_, rfl⟩
  have hb1 : Below w.heap.size w w1 := by rw [hw1]; exact (Below.refl _ _).alloc (Nat.le_refl _) _
  rw [← hw1]
  have hs1 := hb1.size
  have hth1 : w1.there Bs (tg * 18) 18 := fun j hj => by
    have h1 := th (tg * 18 + j) (by omega)
    rw [Nat.zero_add] at h1
    have e1 : w1.cell? ⟨Bs, tg * 18 + j, none⟩ = w.cell? ⟨Bs, tg * 18 + j, none⟩ := hb1.cell (by exact hBs)
    have e2 : w1.frozen? ⟨Bs, tg * 18 + j, none⟩ = w.frozen? ⟨Bs, tg * 18 + j, none⟩ := hb1.frozen (by exact hBs)
    rw [e1, e2]; exact h1
  obtain ⟨w2, hw2⟩ : ∃ w2, w2 = w1.setCells Bs (tg * 18) cs := ⟨_, rfl⟩
  have hz2 : w2.heap.size = w1.heap.size := by rw [hw2, size_setCells]
  have hT2 : ∀ o, w2.cell? ⟨T, o, none⟩ = w.cell? ⟨T, o, none⟩ := fun o => by
    rw [hw2, World.cell?_setCells_out _ _ _ _ _ (fun hb => absurd hb (by exact hTB))]; exact hb1.cell (by exact hT)
  have hsame : (w1.setCells Bs (tg * 18) cs).rangeAt Bs (tg * 18) cs := World.rangeAt_setCells_same _ _ _ _ (by rw [hcs]; exact hth1)
  rw [← hw2] at hsame ⊢
  have hbel : Below W.heap.size W (w2.setCell ⟨T, 1, none⟩ (.int .i64 (wrap64 (used + 1)))) := by
    refine Below.setCell ?_ (by exact hWT) _
    rw [hw2]
    exact below_setCells _ hWB _ _ _ _ (hb.trans (hb1.mono hb.size))
  have apart : ∀ {b o : Nat} {xs : List Value}, b < w.heap.size → b ≠ Bs → b ≠ T → w.rangeAt b o xs → (w2.setCell ⟨T, 1, none⟩ (.int .i64 (wrap64 (used + 1)))).rangeAt b o xs := by
    intro b o xs hbl h1 h2 hr
    refine rangeAt_setCell_other ?_ _ _ (by exact fun e => h2 e.symm)
    rw [hw2]
    exact World.rangeAt_setCells_apart (rangeAt_below hr hb1 hbl) _ _ _ (.inl h1)
  refine ⟨⟨hbel.os, hbel.tape, hbel.output, hbel.size, hbel.block⟩, ?_, ?_, ?_, ?_, ?_, ?_, ?_, ?_, ?_, ?_⟩
  · show T < (w2.setCell _ _).heap.size; simp [hz2]; omega
  · show Bs < (w2.setCell _ _).heap.size; simp [hz2]; omega
  · show Bb < (w2.setCell _ _).heap.size; simp [hz2]; omega
  · show S < (w2.setCell _ _).heap.size; simp [hz2]; omega
  · show (w2.setCell _ _).cell? _ = _
    rw [World.cell?_setCell_other _ _ _ _ (by simp), hT2]; exact c0
  · show (w2.setCell _ _).cell? _ = _
    rw [World.cell?_setCell_same _ _ _ ((hT2 1).trans c1)]
  · show (w2.setCell _ _).cell? _ = _
    rw [World.cell?_setCell_other _ _ _ _ (by simp), hT2]; exact c2
  · exact fun j hj => apart hBb hbb (fun e => hTb e.symm) (row_of_rowsL hR old j hj)
  · intro j hj
    show (w2.setCell _ _).rangeAt _ _ _
    refine rangeAt_setCell_other ?_ _ _ (by exact hTB)
    by_cases e : j = tg
    · rw [if_pos e, e]; exact hsame
    · rw [if_neg e, hw2]
      exact World.rangeAt_setCells_apart (rangeAt_below (row_of_rowsL hR now j hj) hb1 hBs) _ _ _ (.inr (by rw [hR, hcs]; omega))
  · exact apart hS hSB (fun e => hTS e.symm) s
end Go.Proofs.Ybulkecly
