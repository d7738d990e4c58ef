/-
  The ring as the law builds it.
-/
import Derived.Test.YbulkecmmFmtPub3
import Derived.Laws.Tables
import Derived.Laws.MakeOwn
set_option linter.unusedVariables false
set_option linter.unusedSimpArgs false
namespace Go.Proofs.YbulkecmmFmt
open Go.RowKit

theorem Ybaf.inf36 : (Ybaf.prog.info? 36).map (fun i => (i.zero, i.size, i.bytes)) = some (some (.agg #[.int .u64 0]), 1, 8) := by kernel_rfl
theorem Ybaf.inf3 : (Ybaf.prog.info? 3).map (fun i => (i.zero, i.size, i.bytes)) = some (some (.int .i64 0), 1, 8) := by kernel_rfl
theorem Ybaf.inf25 : (Ybaf.prog.info? 25).map (fun i => (i.zero, i.size, i.bytes)) = some (some (.int .u64 0), 1, 8) := by kernel_rfl
theorem make24 (kl : IntKind) (n : Nat) (hn : n ≤ 1048576) (w : World) : (Instr.makeSlice 24 (.int kl (n : Int)) (.int kl (n : Int))).run Ybaf.prog w = .ok (.slice (some ⟨w.heap.size, 0, none⟩) n n) (w.alloc (.cells (madeCells #[.int .i64 0] n) 3)) :=
  run_make_row' 24 3 (.int .i64 0) 8 Ybaf.underlying24 Ybaf.inf3 rfl kl kl n (by omega) (by omega) w
theorem make69 (kl : IntKind) (n : Nat) (hn : n ≤ 1048576) (w : World) : (Instr.makeSlice 69 (.int kl (n : Int)) (.int kl (n : Int))).run Ybaf.prog w = .ok (.slice (some ⟨w.heap.size, 0, none⟩) n n) (w.alloc (.cells (madeCells #[.int .u64 0] n) 25)) :=
  run_make_row' 69 25 (.int .u64 0) 8 Ybaf.underlying69 Ybaf.inf25 rfl kl kl n (by omega) (by omega) w
theorem make27 (kl : IntKind) (n : Nat) (hn : n ≤ 1048576) (w : World) : (Instr.makeSlice 27 (.int kl (n : Int)) (.int kl (n : Int))).run Ybaf.prog w = .ok (.slice (some ⟨w.heap.size, 0, none⟩) n n) (w.alloc (.cells (madeCells #[.int .u64 0] n) 36)) := by
  obtain ⟨i, hi, h⟩ := Option.map_eq_some_iff.1 Ybaf.inf36
  simp only [Prod.mk.injEq] at h
  obtain ⟨hz, hs, hb⟩ := h
  have hr := run_make (P := Ybaf.prog) w 27 36 i _ Ybaf.underlying27 hi hz kl kl n n (by omega) (Int.le_refl _) (by rw [hb]; omega) (by omega)
  simp only [Int.toNat_natCast, hs, Nat.mul_one] at hr
  exact hr

/-- The Ring's cells as 'Ring[int]{slots: .., mask: .., capacity: ..}' lays them. -/
noncomputable def ringC (S c : Nat) : Array Value := ((Ybaf.zeroCells60.setIfInBounds 0 (.slice (some ⟨S, 0, none⟩) c c)).setIfInBounds 1 (.int .u64 ((c - 1 : Nat) : Int))).setIfInBounds 2 (.int .u64 (c : Nat))
theorem ringC_fields (S c : Nat) : Fields c S none none 0 0 0 0 (ringC S c) :=
  ⟨by kernel_rfl, by kernel_rfl, by kernel_rfl, by kernel_rfl, by kernel_rfl, by kernel_rfl, by kernel_rfl, by kernel_rfl, by kernel_rfl, by kernel_rfl⟩
theorem seqC128 : Ybaf.zeroCells55[128]? = some (.int .u64 0) := by kernel_rfl

section
variable {B R S c : Nat} {pb : Option Nat} {gt : Option (Nat × Nat)} {x nx lm sh : Nat} {s : Nat → Int} {p : Nat → Nat} {g : Nat} {wz w0 w w' : World}

/-- The ring, just built. -/
theorem Rg.born (w0 : World) (c g : Nat) : Rg w0.heap.size (w0.heap.size + 1) w0.heap.size c none none 0 0 0 0 (fun _ => 0) (fun _ => 0) g w0 w0 ((w0.alloc (.cells (madeCells #[.int .i64 0] c) 3)).alloc (.cells (ringC w0.heap.size c) 60)) := by
  have hz : (w0.alloc (.cells (madeCells #[.int .i64 0] c) 3)).heap.size = w0.heap.size + 1 := by simp
  have hb : Below w0.heap.size w0 ((w0.alloc (.cells (madeCells #[.int .i64 0] c) 3)).alloc (.cells (ringC w0.heap.size c) 60)) := ((Below.refl _ _).alloc (Nat.le_refl _) _).alloc (by rw [hz]; omega) _
  refine ⟨hb, hb.size, fun k hk _ _ _ => hb.block k hk, by omega, Nat.le_refl _, ⟨ringC w0.heap.size c, ?_, ringC_fields _ _⟩, ?_, (fun Pb e => by cases e), (fun Gb Gs e => by cases e)⟩
  · have := heap_alloc_new (w0.alloc (.cells (madeCells #[.int .i64 0] c) 3)) (.cells (ringC w0.heap.size c) 60)
    rwa [hz] at this
  · exact (World.rowIs_made w0 (.int .i64 0) c 3).alloc _

/-- From here on the other blocks are looked at too. -/
theorem Rg.reset (h : Rg B R S c pb gt x nx lm sh s p g wz w0 w) : Rg B R S c pb gt x nx lm sh s p g w w0 w :=
  ⟨h.below, Nat.le_refl _, fun _ _ _ _ _ => rfl, h.lR, h.lS, h.ring, h.slots, h.pub, h.gat⟩

/-- One slot is stored. -/
theorem Rg.slot (h : Rg B R S c pb gt x nx lm sh s p g wz w0 w) (i : Nat) (z : Int) : Rg B R S c pb gt x nx lm sh (fun j => if j = i then z else s j) p g wz w0 (w.setCell ⟨S, i, none⟩ (.int .i64 z)) :=
  h.turnS (w' := w.setCell ⟨S, i, none⟩ (.int .i64 z)) rfl rfl rfl (by simp) (fun k _ hk => Below.heap_setCell _ _ _ _ (by exact hk)) ((h.slots.set i _).congr fun j hj => by split <;> rfl)

/-- 'r.published = make(..)'. -/
theorem Rg.marks (h : Rg B R S c none gt x nx lm sh s p g wz w0 w) (hB : B ≤ w.heap.size) : Rg B R S c (some w.heap.size) gt x nx lm sh s (fun _ => 0) g wz w0 ((w.setCell ⟨R, 3, none⟩ (.slice (some ⟨w.heap.size, 0, none⟩) c c)).alloc (.cells (madeCells #[.int .u64 0] c) 36)) := by
  obtain ⟨cs, hc, f⟩ := h.ring
  have hlR := h.lR
  have hz : (w.setCell ⟨R, 3, none⟩ (.slice (some ⟨w.heap.size, 0, none⟩) c c)).heap.size = w.heap.size := by simp
  have hal : ∀ k, k < w.heap.size → ((w.setCell ⟨R, 3, none⟩ (.slice (some ⟨w.heap.size, 0, none⟩) c c)).alloc (.cells (madeCells #[.int .u64 0] c) 36)).heap[k]? = (w.setCell ⟨R, 3, none⟩ (.slice (some ⟨w.heap.size, 0, none⟩) c c)).heap[k]? := fun k hk => Below.heap_alloc _ _ _ (by omega)
  have oth : ∀ k, k < w.heap.size → k ≠ R → ((w.setCell ⟨R, 3, none⟩ (.slice (some ⟨w.heap.size, 0, none⟩) c c)).alloc (.cells (madeCells #[.int .u64 0] c) 36)).heap[k]? = w.heap[k]? := fun k hk hne => (hal k hk).trans (Below.heap_setCell _ _ _ _ (by exact hne))
  have keep : ∀ {k : Nat} {cur : Array Value} {e : Nat}, w.heap[k]? = some (.cells cur e (0, 0)) → e ≠ 60 → ((w.setCell ⟨R, 3, none⟩ (.slice (some ⟨w.heap.size, 0, none⟩) c c)).alloc (.cells (madeCells #[.int .u64 0] c) 36)).heap[k]? = w.heap[k]? := fun {k cur e} hk' he => oth k (rgLt hk') (blk_ne hk' hc he)
  have hS := h.slots
  obtain ⟨cS, hbS, _⟩ := hS
  refine ⟨h.below.trans ⟨rfl, rfl, rfl, by simp, fun k hk => oth k (by omega) (by omega)⟩, (by have := h.zs; simp; omega), (fun k h1 h2 h3 _ => (oth k (Nat.lt_of_lt_of_le h1 h.zs) h2).trans (h.kept k h1 h2 h3 (by simp))), h.lR, h.lS, ⟨_, (hal R (rgLt hc)).trans (heap_setCell_same w R 3 cs 60 _ hc), ?_⟩, h.slots.of_block (keep hbS (by decide)), fun Pb e => ?_, fun Gb Gs e => ?_⟩
  · exact ⟨at_set f.f0 (by decide), at_set f.f1 (by decide), at_set f.f2 (by decide), at_same f.f3, at_set f.f6 (by decide), at_set f.f135 (by decide), at_set f.f136 (by decide), at_set f.f391 (by decide), at_set f.f392 (by decide), at_set f.f393 (by decide)⟩
  · cases e
    have := World.rowIs_made (w.setCell ⟨R, 3, none⟩ (.slice (some ⟨w.heap.size, 0, none⟩) c c)) (.int .u64 0) c 36
    rw [hz] at this
    exact ⟨hB, this⟩
  · obtain ⟨h1, h2, ⟨c1, hb1, hv1⟩, c2, hb2, hv2⟩ := h.gat Gb Gs e
    exact ⟨h1, h2, ⟨c1, (keep hb1 (by decide)).trans hb1, hv1⟩, c2, (keep hb2 (by decide)).trans hb2, hv2⟩

/-- 'r.gating = []*sequence{gs}'. -/
theorem Rg.gate {Gs : Nat} {cg : Array Value} (h : Rg B R S c pb none x nx lm sh s p g wz w0 w) (hB : B ≤ w.heap.size) (hG : B ≤ Gs) (hg : w.heap[Gs]? = some (.cells cg 55 (0, 0))) (hv : cg[128]? = some (.int .u64 (g : Nat))) :
    Rg B R S c pb (some (w.heap.size, Gs)) x nx lm sh s p g wz w0 ((w.setCell ⟨R, 6, none⟩ (.slice (some ⟨w.heap.size, 0, none⟩) 1 1)).alloc (.cells #[.pointer (some ⟨Gs, 0, none⟩)] 61)) := by
  obtain ⟨cs, hc, f⟩ := h.ring
  have hlR := h.lR
  have hz : (w.setCell ⟨R, 6, none⟩ (.slice (some ⟨w.heap.size, 0, none⟩) 1 1)).heap.size = w.heap.size := by simp
  have hal : ∀ k, k < w.heap.size → ((w.setCell ⟨R, 6, none⟩ (.slice (some ⟨w.heap.size, 0, none⟩) 1 1)).alloc (.cells #[.pointer (some ⟨Gs, 0, none⟩)] 61)).heap[k]? = (w.setCell ⟨R, 6, none⟩ (.slice (some ⟨w.heap.size, 0, none⟩) 1 1)).heap[k]? := fun k hk => Below.heap_alloc _ _ _ (by omega)
  have oth : ∀ k, k < w.heap.size → k ≠ R → ((w.setCell ⟨R, 6, none⟩ (.slice (some ⟨w.heap.size, 0, none⟩) 1 1)).alloc (.cells #[.pointer (some ⟨Gs, 0, none⟩)] 61)).heap[k]? = w.heap[k]? := fun k hk hne => (hal k hk).trans (Below.heap_setCell _ _ _ _ (by exact hne))
  have keep : ∀ {k : Nat} {cur : Array Value} {e : Nat}, w.heap[k]? = some (.cells cur e (0, 0)) → e ≠ 60 → ((w.setCell ⟨R, 6, none⟩ (.slice (some ⟨w.heap.size, 0, none⟩) 1 1)).alloc (.cells #[.pointer (some ⟨Gs, 0, none⟩)] 61)).heap[k]? = w.heap[k]? := fun {k cur e} hk' he => oth k (rgLt hk') (blk_ne hk' hc he)
  have hS := h.slots
  obtain ⟨cS, hbS, _⟩ := hS
  refine ⟨h.below.trans ⟨rfl, rfl, rfl, by simp, fun k hk => oth k (by omega) (by omega)⟩, (by have := h.zs; simp; omega), (fun k h1 h2 h3 h4 => (oth k (Nat.lt_of_lt_of_le h1 h.zs) h2).trans (h.kept k h1 h2 h3 h4)), h.lR, h.lS, ⟨_, (hal R (rgLt hc)).trans (heap_setCell_same w R 6 cs 60 _ hc), ?_⟩, h.slots.of_block (keep hbS (by decide)), fun Pb e => ?_, fun Gb' Gs' e => ?_⟩
  · exact ⟨at_set f.f0 (by decide), at_set f.f1 (by decide), at_set f.f2 (by decide), at_set f.f3 (by decide), at_same f.f6, at_set f.f135 (by decide), at_set f.f136 (by decide), at_set f.f391 (by decide), at_set f.f392 (by decide), at_set f.f393 (by decide)⟩
  · obtain ⟨h1, h2⟩ := h.pub Pb e
    have h2' := h2
    obtain ⟨cc, hb, _⟩ := h2'
    exact ⟨h1, h2.of_block (keep hb (by decide))⟩
  · cases e
    refine ⟨hB, hG, ⟨#[.pointer (some ⟨Gs, 0, none⟩)], ?_, rfl⟩, cg, (keep hg (by decide)).trans hg, hv⟩
    have := heap_alloc_new (w.setCell ⟨R, 6, none⟩ (.slice (some ⟨w.heap.size, 0, none⟩) 1 1)) (.cells #[.pointer (some ⟨Gs, 0, none⟩)] 61)
    rwa [hz] at this

/-- A cell of the ring that nobody looks at. -/
theorem Rg.setOther (h : Rg B R S c pb gt x nx lm sh s p g wz w0 w) (o : Nat) (v : Value) (ho : o = 255 ∨ o = 262) : Rg B R S c pb gt x nx lm sh s p g wz w0 (w.setCell ⟨R, o, none⟩ v) :=
  h.setR o v fun cs f => ⟨at_set f.f0 (by omega), at_set f.f1 (by omega), at_set f.f2 (by omega), at_set f.f3 (by omega), at_set f.f6 (by omega), at_set f.f135 (by omega), at_set f.f136 (by omega), at_set f.f391 (by omega), at_set f.f392 (by omega), at_set f.f393 (by omega)⟩
theorem Rg.there (h : Rg B R S c pb gt x nx lm sh s p g wz w0 w) (o : Nat) (ho : o < 393) : ∃ u, w.cell? ⟨R, o, none⟩ = some u := by
  obtain ⟨cs, hc, f⟩ := h.ring
  have := (Array.getElem?_eq_some_iff.1 f.f393).1
  exact ⟨cs[o], by rw [cell_of_row _ _ _ _ _ _ hc, Array.getElem?_eq_getElem (by omega)]⟩
end

set_option maxRecDepth 100000 in
theorem init_ring {B R S c : Nat} {pb : Option Nat} {gt : Option (Nat × Nat)} {x nx lm sh : Nat} {s : Nat → Int} {p : Nat → Nat} {g : Nat} {wz w0 w : World} (h : Rg B R S c pb gt x nx lm sh s p g wz w0 w) (y : Nat) :
    Calls Ybaf.prog 6 #[.pointer (some ⟨R, 7, none⟩), .int .u64 (y : Nat), .int .i64 3] w fun e w' => e = .returned (.tuple #[]) ∧ Rg B R S c pb gt y nx lm sh s p g wz w0 w' := by
  have c135 := h.c135
  have z135 := h.free 135
  have h1 := h.setX y
  obtain ⟨u, hu⟩ := h1.there 255 (by decide)
  have zu := h1.free 255
  have h2 := h1.setOther 255 (.iface 105 (.pointer (some ⟨R, 253, none⟩))) (.inl rfl)
  obtain ⟨t, ht⟩ := h2.there 262 (by decide)
  have zt := h2.free 262
  have HR : Hid (Rg B R S c pb gt y nx lm sh s p g wz w0 (((w.setCell ⟨R, 135, none⟩ (.int .u64 (y : Nat))).setCell ⟨R, 255, none⟩ (.iface 105 (.pointer (some ⟨R, 253, none⟩)))).setCell ⟨R, 262, none⟩ (.int .i64 3))) := h2.setOther 262 _ (.inr rfl)
  clear h h1 h2
  go_enter Ybaf.func6, Ybaf.ntmps6
  go_wp2_with (go_at_call 5; refine (store_u64 R 135 _ _ _ c135 z135).mono ?_; rintro e w' ⟨rfl, rfl⟩)
  go_end0
  exact ⟨rfl, HR.out⟩

/-- 'copy(vc, vs)'. -/
theorem copy_vc (w : World) (V k vcap : Nat) (va : Option Addr) (f v : Nat → Int) (hrow : w.rowIs V 3 k (fun i => .int .i64 (f i))) (hI : Ints w va k v) (ty : TypeId) :
    ∃ w', (Builtin.copy_ #[24, 24] ty #[.slice (some ⟨V, 0, none⟩) k k, .slice va k vcap]).run Ybaf.prog w = .ok (.int .i64 (k : Nat)) w' ∧ w'.rowIs V 3 k (fun i => .int .i64 (v i)) ∧ (∀ b, b ≠ V → w'.heap[b]? = w.heap[b]?) ∧ w'.os = w.os ∧ w'.tape = w.tape ∧ w'.output = w.output ∧ w'.heap.size = w.heap.size := by
  rcases Nat.eq_zero_or_pos k with h0 | h0
  · subst h0
    exact ⟨w, run_copy_none (P := Ybaf.prog) w 24 24 ty 3 _ va 0 0 0 vcap Ybaf.underlying24 info3' (by simp), hrow.congr (fun i hi => absurd hi (by omega)), fun _ _ => rfl, rfl, rfl, rfl, rfl⟩
  · obtain ⟨b, o, rfl, _⟩ := hI 0 h0
    obtain ⟨cs, hb, hn, hc⟩ := hrow
    have hlen : ((List.range k).map fun j => (.int .i64 (v j) : Value)).length = k := by simp
    have hrun := run_copy_row (P := Ybaf.prog) w 24 24 ty 3 V 0 k k ⟨b, o, none⟩ k vcap cs 3 ((List.range k).map fun j => (.int .i64 (v j) : Value)) Ybaf.underlying24 info3' hb (by rw [hlen]; simp) (by
      intro j u hu
      rw [List.getElem?_map] at hu
      by_cases hj : j < k
      · rw [List.getElem?_range hj] at hu
        simp at hu
        subst hu
        obtain ⟨b', o', e', hc'⟩ := hI j hj
        cases e'
        rw [Addr.add_mid]; exact hc'
      · rw [List.getElem?_eq_none (by simpa using hj)] at hu; cases hu) (by rw [hlen, hn]; omega) (by
      intro u hu
      obtain ⟨j, _, rfl⟩ := List.mem_map.1 hu
      rfl)
    rw [hlen] at hrun
    refine ⟨_, hrun, ⟨_, setRow_heap w V cs _ 3 (0, 0) hb, ?_, fun i hi => ?_⟩, fun b' hb' => setRow_other w V b' _ hb', rfl, rfl, rfl, by simp [World.setRow]⟩
    · simp [hn]
    · rw [List.getElem?_toArray, List.take_zero, List.nil_append, List.getElem?_append_left (by simpa using hi), List.getElem?_map, List.getElem?_range hi]
      rfl
end Go.Proofs.YbulkecmmFmt
