/-
  (*Graph).declare, a name that is not there yet: the loop over the deps, and what follows.
-/
import Derived.Test.YbulkecmmFmtSeen
import Derived.Deep.RegionLaw
import Derived.Deep.AppendLies
set_option linter.unusedVariables false
set_option linter.unusedSimpArgs false
namespace Go.Proofs.YbulkecmmFmt
open Go.RowKit Go.MuLone Go.Extern.Stop Go.Stop Go.Extern

theorem Ybaf.info89 : (Ybaf.prog.info? 89).map (fun i => (i.zero.map (·.cells.size), i.size, i.bytes)) = some (some 3, 3, 48) := by kernel_rfl
theorem info89_parts : ∃ i z, Ybaf.prog.info? 89 = some i ∧ i.zero = some z ∧ z.cells.size = 3 ∧ i.size = 3 ∧ i.bytes = 48 := by
  obtain ⟨i, hi, h⟩ := Option.map_eq_some_iff.1 Ybaf.info89
  simp only [Prod.mk.injEq] at h
  obtain ⟨z, hz, hc⟩ := Option.map_eq_some_iff.1 h.1
  exact ⟨i, z, hi, hz, hc, h.2.1, h.2.2⟩

theorem make124 (k : Int) (w : World) : (Instr.makeMap 124 (some (.int .i64 k))).run Ybaf.prog w = .ok (.map (some w.heap.size)) (w.alloc (.map #[] 0)) := by kernel_rfl
theorem make77 (k : Int) (w : World) : (Instr.makeMap 77 (some (.int .i64 k))).run Ybaf.prog w = .ok (.map (some w.heap.size)) (w.alloc (.map #[] 0)) := by kernel_rfl
theorem make77n (w : World) : (Instr.makeMap 77 none).run Ybaf.prog w = .ok (.map (some w.heap.size)) (w.alloc (.map #[] 0)) := rfl

/-- What holds along declare's loop, k deps seen. -/
structure Walked (g : Nat) (vD : Value) (mo : Option Nat) (bx : Array Value) (mb : Nat) (f : Nat → ByteArray) (k : Nat) (r : List ByteArray) (w wr : World) : Prop where
  held : Held g vD mo none w wr
  box : wr.heap[w.heap.size]? = some (.cells bx 89 (0, 0))
  idx : Idx wr mo r
  seen : Seen wr mb (revL f k)
  mbl : w.heap.size < mb
theorem Walked.step {g : Nat} {vD : Value} {mo : Option Nat} {bx : Array Value} {mb : Nat} {f : Nat → ByteArray} {k : Nat} {r : List ByteArray} {w wr w2 : World} (h : Walked g vD mo bx mb f k r w wr) (hgl : g < w.heap.size) (hi : Idx w mo r)
    (hs : Seen w2 mb (revL f (k + 1))) (hg : wr.grownBy w2 (some mb)) : Walked g vD mo bx mb f (k + 1) r w w2 :=
  ⟨h.held.grown hg (fun k e => by cases e; exact Nat.le_of_lt h.mbl) hgl, (hg.block _ h.held.size (fun e => by cases e; exact absurd h.mbl (by omega))).trans h.box,
    h.idx.same (fun m e => hg.block m (by subst e; exact h.idx.lt) (fun e2 => by subst e; cases e2; have := hi.lt; have := h.mbl; omega)), hs, h.mbl⟩
theorem walked_mk {g : Nat} {vD : Value} {mo : Option Nat} {bx : Array Value} {f : Nat → ByteArray} {r : List ByteArray} {w w1 : World} (h : Held g vD mo none w w1) (hbox : w1.heap[w.heap.size]? = some (.cells bx 89 (0, 0))) (hi : Idx w1 mo r) :
    Walked g vD mo bx w1.heap.size f 0 r w (w1.drew.alloc (.map #[] 0)) := by
  have hb : Below w1.heap.size w1 (w1.drew.alloc (.map #[] 0)) := ((Below.refl _ _).drew).alloc (Nat.le_refl _) _
  exact ⟨h.next hb, (hb.block _ h.size).trans hbox, hi.same (fun m e => by subst e; exact hb.block m hi.lt), World.ownsMap_made _ _ _ _, h.size⟩

/-- What comes back where declare adds d. -/
structure Added (base g : Nat) (l : List Dc) (d : Dc) (vD : Value) (mo : Option Nat) (r : List ByteArray) (vD' : Value) (mb : Nat) (w w' : World) : Prop where
  blk : w'.heap[g]? = some (.cells (gCells 0 vD' (some mb) none) 83 (0, 0))
  row : w'.ownsRow base 89 3 vD' (l.length + 1) (dcs (l ++ [d]))
  idx : Idx w' (some mb) (d.1 :: r)
  kept : ∀ k, k < w.heap.size → k ≠ g → some k ≠ mo → some k ≠ vD.ownBlock → w'.heap[k]? = w.heap[k]?
  os : w'.os = w.os
  tape : w'.tape = w.tape
  output : w'.output = w.output
  size : w.heap.size ≤ w'.heap.size
  far : mo = some mb ∨ w.heap.size ≤ mb

theorem refused_mk2 {g : Nat} {vD : Value} {mo : Option Nat} {aD : Addr} {w w1 : World} {o : Obj} (text : ByteArray) (hb : w.heap[g]? = some (.cells (gCells 0 vD mo none) 83 (0, 0))) (h : Held g vD mo none w w1) :
    Held g vD mo none w (((w1.alloc o).alloc (.cells #[.string text, .iface 142 (.pointer (some aD))] 205)).drew) ∧
    ((((w1.alloc o).alloc (.cells #[.string text, .iface 142 (.pointer (some aD))] 205)).drew).setCell ⟨g, 0, none⟩ (.int .i32 0)).heap[w1.heap.size + 1]? = some (.cells #[.string text, .iface 142 (.pointer (some aD))] 205 (0, 0)) ∧ w.heap.size ≤ w1.heap.size + 1 := by
  have hgl := lt_of_heap hb
  have hsz := h.size
  have hz : (w1.alloc o).heap.size = w1.heap.size + 1 := by simp
  refine ⟨h.next (((((Below.refl _ _).alloc (Nat.le_refl _) _)).alloc (by omega) _).drew), ?_, by omega⟩
  rw [Below.heap_setCell _ _ _ _ (by show w1.heap.size + 1 ≠ g; omega), ← hz]
  exact heap_alloc_new _ _

/-- Only the way that goes on: for a region in which nothing panics. -/
def Only (next : Act → World → Prop) : Exit → Act → World → Prop
  | .normal, a, w => next a w
  | _, _, _ => False
theorem only_wp {P : Program} {c : Code} {Q : Exit → Act → World → Prop} {a : Act} {w : World} (h : c.wp P (Only (Q .normal)) a w) : c.wp P Q a w :=
  Code.wp_mono (fun e a w hq => by cases e <;> first | exact hq | exact hq.elim) h
theorem only_mk {next : Act → World → Prop} {a : Act} {w : World} (h : next a w) : Only next .normal a w := h

theorem eql77 (m : Option Nat) (w : World) : (binOp .eql 77 (.map m) (.map none)).run Ybaf.prog w = .ok (.bool m.isNone) w := run_eql_map_nil w 77 9 3 m Ybaf.underlying77

/-- Behind 'g.index[d.name] = len(g.decls)'. -/
theorem tail_facts {base g mq : Nat} {l : List Dc} {vD : Value} {r r2 : List ByteArray} {bx : Array Value} {w wq w2 : World} (hq : Held g vD (some mq) none w wq) (hbox : wq.heap[w.heap.size]? = some (.cells bx 89 (0, 0))) (hiq : Idx wq (some mq) r)
    (hrow : w.ownsRow base 89 3 vD l.length (dcs l)) (hgb : g < base) (hgl : g < w.heap.size) (_hi2 : Idx w2 (some mq) r2) (hgr : wq.drew.grownBy w2 (some mq)) :
    w2.heap[g]? = some (.cells (gCells 1 vD (some mq) none) 83 (0, 0)) ∧ w2.heap[w.heap.size]? = some (.cells bx 89 (0, 0)) ∧ w2.ownsRow base 89 3 vD l.length (dcs l) ∧ (∀ k, vD.ownBlock = some k → k ≠ mq) := by
  have hsz := hq.size
  have hne : ∀ k, vD.ownBlock = some k → wq.heap[k]? = w.heap[k]? := fun k e => by
    have := hrow.lt k e
    exact hq.oth k this.2 (by omega)
  have hmq : ∀ k, vD.ownBlock = some k → k ≠ mq := fun k e => by
    obtain ⟨_, ⟨rfl, _⟩ | ⟨g', cap, cur, rfl, _, hc, _⟩⟩ := hrow
    · cases e
    · cases e
      exact (hiq.not_cells ((hne g' rfl).trans hc)).symm
  refine ⟨(hgr.block g (by show g < wq.heap.size; omega) (fun e => hiq.not_cells hq.blk (by cases e; rfl))).trans hq.blk, (hgr.block _ (by exact hsz) (fun e => hiq.not_cells hbox (by cases e; rfl))).trans hbox, ?_, hmq⟩
  refine owns_of_block hrow fun k e => ?_
  have := hrow.lt k e
  exact (hgr.block k (by show k < wq.heap.size; omega) (fun e2 => hmq k e (by cases e2; rfl))).trans (hne k e)

theorem dcs_snoc (l : List Dc) (d : Dc) : dcs (l ++ [d]) = dcs l ++ [.string d.1, d.2.1, d.2.2] := by simp [dcs]

theorem added_mk {base g mq g2 cap : Nat} {l : List Dc} {d : Dc} {vD : Value} {mo : Option Nat} {r : List ByteArray} {o : Obj} {w wq w2 w3 : World} (hgl : g < w.heap.size) (hgb : g < base) (hbase : base ≤ w.heap.size) (hq : Held g vD (some mq) none w wq)
    (hmo : mo = some mq ∨ w.heap.size ≤ mq) (h2 : w2.heap[g]? = some (.cells (gCells 1 vD (some mq) none) 83 (0, 0))) (hrow2 : w2.ownsRow base 89 3 vD l.length (dcs l)) (hmq : ∀ k, vD.ownBlock = some k → k ≠ mq)
    (hi2 : Idx w2 (some mq) (d.1 :: r)) (hgr2 : wq.drew.grownBy w2 (some mq))
    (hown : w3.ownsRow base 89 3 (.slice (some ⟨g2, 0, none⟩) (l.length + 1) cap) (l.length + 1) (dcs l ++ [.string d.1, d.2.1, d.2.2])) (hgr3 : ((w2.alloc o).drew).grownBy w3 vD.ownBlock) (hor : vD.ownBlock = some g2 ∨ g2 = w2.heap.size + 1) :
    (w3.heap[g]? = some (.cells (gCells 1 vD (some mq) none) 83 (0, 0))) ∧
    ((w3.setCell ⟨g, 2, none⟩ (.slice (some ⟨g2, 0, none⟩) (l.length + 1) cap)).heap[g]? = some (.cells (gCells 1 (.slice (some ⟨g2, 0, none⟩) (l.length + 1) cap) (some mq) none) 83 (0, 0))) ∧
    Added base g l d vD mo r (.slice (some ⟨g2, 0, none⟩) (l.length + 1) cap) mq w ((w3.setCell ⟨g, 2, none⟩ (.slice (some ⟨g2, 0, none⟩) (l.length + 1) cap)).setCell ⟨g, 0, none⟩ (.int .i32 0)) := by
  have hsz := hq.size
  have hs2 : wq.heap.size ≤ w2.heap.size := hgr2.size
  have hz : ((w2.alloc o).drew).heap.size = w2.heap.size + 1 := by show (w2.alloc o).heap.size = _; simp
  have hs3 := hgr3.size
  have hgv : some g ≠ vD.ownBlock := fun e => by have := hrow2.lt g e.symm; omega
  have hal : ∀ k, k < w2.heap.size → ((w2.alloc o).drew).heap[k]? = w2.heap[k]? := fun k hk => by show (w2.alloc o).heap[k]? = _; exact Below.heap_alloc _ _ _ hk
  have hg3 : w3.heap[g]? = some (.cells (gCells 1 vD (some mq) none) 83 (0, 0)) := by
    rw [hgr3.block g (by omega) hgv, hal g (by omega)]; exact h2
  have hg4 : (w3.setCell ⟨g, 2, none⟩ (.slice (some ⟨g2, 0, none⟩) (l.length + 1) cap)).heap[g]? = some (.cells (gCells 1 (.slice (some ⟨g2, 0, none⟩) (l.length + 1) cap) (some mq) none) 83 (0, 0)) := heap_set hg3 _
  have hgg : g2 ≠ g := by
    rcases hor with e | e
    · intro h; subst h; exact hgv e.symm
    · omega
  have hmqg : mq ≠ g := hi2.not_cells h2
  refine ⟨hg3, hg4, ⟨heap_set hg4 _, ?_, ?_, ?_, hgr3.os.trans (hgr2.os.trans hq.os), hgr3.tape.trans (hgr2.tape.trans hq.tape), hgr3.output.trans (hgr2.output.trans hq.output), by simp; omega, hmo⟩⟩
  · rw [dcs_snoc]
    refine owns_of_block hown fun k e => ?_
    cases e
    rw [Below.heap_setCell _ _ _ _ (by exact hgg), Below.heap_setCell _ _ _ _ (by exact hgg)]
  · refine hi2.same fun m e => ?_
    cases e
    have hml := hi2.lt
    rw [Below.heap_setCell _ _ _ _ (by exact hmqg), Below.heap_setCell _ _ _ _ (by exact hmqg), hgr3.block mq (by omega) (fun e => hmq mq e.symm rfl), hal mq hml]
  · intro k hk h1 h3 h4
    rw [Below.heap_setCell _ _ _ _ (by exact h1), Below.heap_setCell _ _ _ _ (by exact h1), hgr3.block k (by omega) h4, hal k (by omega), hgr2.block k (by show k < wq.heap.size; omega) ?_]
    · exact hq.oth k hk h1
    · intro e
      cases e
      rcases hmo with e | e
      · exact h3 e.symm
      · omega

/-- Behind 'g.index = make(map[string]int)'. -/
theorem held_idx {g : Nat} {vD : Value} {bx : Array Value} {w wr : World} (h : Held g vD none none w wr) (hbox : wr.heap[w.heap.size]? = some (.cells bx 89 (0, 0))) (hgl : g < w.heap.size) :
    Held g vD (some wr.heap.size) none w ((wr.setCell ⟨g, 3, none⟩ (.map (some wr.heap.size))).alloc (.map #[] 0)) ∧
    ((wr.setCell ⟨g, 3, none⟩ (.map (some wr.heap.size))).alloc (.map #[] 0)).heap[w.heap.size]? = some (.cells bx 89 (0, 0)) ∧
    Idx ((wr.setCell ⟨g, 3, none⟩ (.map (some wr.heap.size))).alloc (.map #[] 0)) (some wr.heap.size) [] := by
  have hsz := h.size
  have hz : (wr.setCell ⟨g, 3, none⟩ (.map (some wr.heap.size))).heap.size = wr.heap.size := by simp
  have hal : ∀ k, k < wr.heap.size → ((wr.setCell ⟨g, 3, none⟩ (.map (some wr.heap.size))).alloc (.map #[] 0)).heap[k]? = (wr.setCell ⟨g, 3, none⟩ (.map (some wr.heap.size))).heap[k]? := fun k hk => Below.heap_alloc _ _ _ (by omega)
  refine ⟨⟨(hal g (by omega)).trans (heap_set h.blk _), fun k hk hne => by rw [hal k (by omega), Below.heap_setCell _ _ _ _ (by exact hne)]; exact h.oth k hk hne, h.os, h.tape, h.output, by simp; omega⟩, ?_, ?_⟩
  · rw [hal _ hsz, Below.heap_setCell _ _ _ _ (by show w.heap.size ≠ g; omega)]; exact hbox
  · have := Idx.made (wr.setCell ⟨g, 3, none⟩ (.map (some wr.heap.size)))
    rwa [hz] at this

attribute [local go_sem] make124 make77 make77n eql77

set_option maxRecDepth 100000 in
set_option maxHeartbeats 1000000 in
theorem declare_new (F : Interp) (base g : Nat) (l : List Dc) (vD : Value) (mo : Option Nat) (r : List ByteArray) (aD : Addr) (s nm : ByteArray) (da : Option Addr) (n dc : Nat) (f : Nat → ByteArray) (fv : Value) (w : World) (hF : F.answers w.tape)
    (hb : w.heap[g]? = some (.cells (gCells 0 vD mo none) 83 (0, 0))) (hg6 : 5 ≤ g) (hgb : g < base) (hbase : base ≤ w.heap.size) (hrow : w.ownsRow base 89 3 vD l.length (dcs l)) (hi : Idx w mo r) (hrl : r.length = l.length) (hl : l.length ≤ 1024)
    (hnm : nm.size ≤ maxLen) (hmem : memB nm r = false)
    (hE : w.cell? ⟨4, 0, none⟩ = some (.iface 142 (.pointer (some aD)))) (hs : w.cell? aD = some (.string s)) (hag : aD.block ≠ g) (hn : n ≤ 1024) (hst : Strs w da n f) (hfs : ∀ i, i < n → (f i).size ≤ maxLen) (hdg : ∀ b o, 0 < n → da = some ⟨b, o, none⟩ → b ≠ g) (hfv : fv.oneCell' = true) :
    Calls Ybaf.prog 14 #[.pointer (some ⟨g, 0, none⟩), .agg #[.string nm, .slice da n dc, fv]] w fun e w' =>
      ((∃ k, k < n ∧ memB (f k) (revL f k) = true) ∧ Refused aD w e w') ∨ ((∀ k, k < n → memB (f k) (revL f k) = false) ∧ e = .returned .nilIface ∧ ∃ vD' mb, Added base g l (nm, .slice da n dc, fv) vD mo r vD' mb w w') := by
  have hgl := lt_of_heap hb
  have HH := held_mk hb (.cells #[.string nm, .slice da n dc, fv] 89)
  have hb1 : (w.alloc (.cells #[.string nm, .slice da n dc, fv] 89)).heap[g]? = some (.cells (gCells 0 vD mo none) 83 (0, 0)) := by rw [Below.heap_alloc _ _ _ hgl]; exact hb
  have l0 : (w.alloc (.cells #[.string nm, .slice da n dc, fv] 89)).cell? ⟨g, 0, none⟩ = some (.int .i32 0) := by rw [cell_of_row _ _ _ _ _ _ hb1]; rfl
  have lf : (w.alloc (.cells #[.string nm, .slice da n dc, fv] 89)).frozen? ⟨g, 0, none⟩ = false := frozen_of_row _ _ _ _ _ hb1
  have hbox : ((w.alloc (.cells #[.string nm, .slice da n dc, fv] 89)).setCell ⟨g, 0, none⟩ (.int .i32 1)).heap[w.heap.size]? = some (.cells #[.string nm, .slice da n dc, fv] 89 (0, 0)) := by
    rw [Below.heap_setCell _ _ _ _ (by show w.heap.size ≠ g; omega)]; exact heap_alloc_new _ _
  clear hb1
  go_enter_defers Ybaf.func14, Ybaf.ntmps14
  go_wp2_with fail
  refine (lock_free Ybaf.muLib ⟨g, 0, none⟩ _ l0 lf).mono ?_
  rintro e w1 ⟨rfl, hw1⟩
  rw [← hw1] at HH hbox
  have hi1 : Idx w1 mo r := hi.same (fun mb e => by subst e; exact HH.oth mb hi.lt (hi.not_cells hb))
  obtain ⟨a0, hlk, _⟩ := (hi1.drew).look nm hnm
  rw [hmem] at hlk
  have hszz := HH.size
  have hc3 := HH.c3
  have hc4 := HH.c4
  have d0 : w1.cell? ⟨w.heap.size, 0, none⟩ = some (.string nm) := by rw [cell_of_row _ _ _ _ _ _ hbox]; rfl
  have d1 : w1.cell? ⟨w.heap.size, 1, none⟩ = some (.slice da n dc) := by rw [cell_of_row _ _ _ _ _ _ hbox]; rfl
  have HHH : Hid (Held g vD mo none w w1) := HH
  have HBX : Hid (w1.heap[w.heap.size]? = some (.cells #[.string nm, .slice da n dc, fv] 89 (0, 0))) := hbox
  have HI : Hid (Idx w1 mo r) := hi1
  have HST : Hid (Strs w da n f) := hst
  have HROW : Hid (w.ownsRow base 89 3 vD l.length (dcs l)) := hrow
  clear hw1 HH l0 lf hbox hi1 hst hrow
  go_wp2_with (go_at_call 16; refine (load_nil _ _ hc4).mono ?_; rintro e w' ⟨rfl, rfl⟩)
  go_region
  clear hlk
  go_wp2_with fail
  have W0 := walked_mk (f := f) HHH.out HBX.out HI.out
  obtain ⟨mb, hmb⟩ : ∃ mb, mb = w'.heap.size := ⟨_, rfl⟩
  rw [← hmb] at W0 ⊢
  have W0H : Hid (Walked g vD mo #[.string nm, .slice da n dc, fv] mb f 0 r w (w'.drew.alloc (.map #[] 0))) := W0
  clear W0 HHH HBX HI hc3 hc4 d0 d1 hszz
  try rw [show (w'.alloc (.map #[] 0)).drew = w'.drew.alloc (.map #[] 0) from rfl]
  go_loopw [47] (fun i wr => ∃ k : Nat, k ≤ n ∧ i = .int .i64 k ∧ Walked g vD mo #[.string nm, .slice da n dc, fv] mb f k r w wr ∧ ∀ j, j < k → memB (f j) (revL f j) = false) (fun i _ => n - (intOf i).toNat)
  case atStart => exact ⟨0, Nat.zero_le _, rfl, W0H.out, fun j hj => absurd hj (by omega)⟩
  case round =>
    clear W0H hmb
    obtain ⟨k, hk, rfl, HW, hlow⟩ := hrel
    have HWH : Hid (Walked g vD mo #[.string nm, .slice da n dc, fv] mb f k r w wr) := HW
    have HL : Hid (∀ j, j < k → memB (f j) (revL f j) = false) := hlow
    clear hlow
    by_cases hkn : k < n
    · obtain ⟨b, o, rfl, hc0⟩ := HST.out k hkn
      have hc := HW.held.cell hc0 (by exact hdg b o (by omega) rfl)
      have hlk := HW.seen.look (f k) (hfs k hkn)
      cases hm : memB (f k) (revL f k) with
      | true =>
        rw [hm] at hlk
        have d0 : wr.cell? ⟨w.heap.size, 0, none⟩ = some (.string nm) := by rw [cell_of_row _ _ _ _ _ _ HW.box]; rfl
        have hE1 := HW.held.cell hE (by show (4 : Nat) ≠ g; omega)
        have hs1 := HW.held.cell hs hag
        have htp : F.answers wr.tape := by rw [HW.held.tape]; exact hF
        clear HW hc0
        go_wp2_with fail
        refine (errorf3 F _ aD s nm (f k) _ (by exact htp) ?hc ?h0 ?h1 ?h2).mono ?_
        case hc => rw [World.cell?_alloc_lt _ _ _ (World.block_lt_of_cell? _ _ hs1)]; exact hs1
        case h0 => simp
        case h1 => simp
        case h2 => simp
        rintro e w2 ⟨text, rfl, rfl⟩
        obtain ⟨H2, hbk, hle⟩ := refused_mk2 (aD := aD) (o := .cells #[.iface 142 (.pointer (some aD)), .iface 9 (.string nm), .iface 9 (.string (f k))] 20) text hb HWH.out.held
        have H2H : Hid (Held g vD mo none w (((wr.alloc (.cells #[.iface 142 (.pointer (some aD)), .iface 9 (.string nm), .iface 9 (.string (f k))] 20)).alloc (.cells #[.string text, .iface 142 (.pointer (some aD))] 205)).drew)) := H2
        clear H2
        go_wp2
        refine leaves_cons (f := 33) (args := #[.pointer (some ⟨g, 0, none⟩)]) (by simp) (by simp [go_sem]) ?_
        refine (unlock_deferred Ybaf.muLib ⟨g, 0, none⟩ .returning _ H2H.out.c0 (H2H.out.free 0)).mono ?_
        rintro e u' w'' ⟨rfl, rfl, rfl⟩
        exact ⟨_, results_tmp rfl _ _ _, .inl ⟨⟨k, hkn, hm⟩, wr.heap.size + 1, text, rfl, hbk, hle, H2H.out.back hb⟩⟩
      | false =>
        rw [hm] at hlk
        obtain ⟨w2, hup, hseen, hgr⟩ := HW.seen.put (f k) (hfs k hkn) (by rw [length_revL]; unfold maxLen; omega)
        have HWN : Hid (Walked g vD mo #[.string nm, .slice (some ⟨b, o, none⟩) n dc, fv] mb f (k + 1) r w w2) := HW.step hgl hi hseen hgr
        clear HW hc0 hseen hgr
        go_wp2
        go_roundw
        case rel => exact ⟨k + 1, by omega, by go_num, HWN.out, fun j hj => by rcases Nat.lt_succ_iff_lt_or_eq.1 hj with h | rfl; exact HL.out j h; exact hm⟩
        case measure => simp [intOf]; omega
    · obtain rfl : k = n := by omega
      clear hE hs hag hF hfs
      obtain ⟨i0, z0, hi0, hz0, hzc, hz1, hz2⟩ := info89_parts
      obtain ⟨va, vc, rfl⟩ := owns_slice HROW.out
      have hc2 := HW.held.c2
      have hc3 := HW.held.c3
      have d0 : wr.cell? ⟨w.heap.size, 0, none⟩ = some (.string nm) := by rw [cell_of_row _ _ _ _ _ _ HW.box]; rfl
      have d1 : wr.cell? ⟨w.heap.size, 1, none⟩ = some (.slice da k dc) := by rw [cell_of_row _ _ _ _ _ _ HW.box]; rfl
      have d2 : wr.cell? ⟨w.heap.size, 2, none⟩ = some fv := by rw [cell_of_row _ _ _ _ _ _ HW.box]; rfl
      have hcf := HW.held.free 3
      have hidx := HW.idx
      clear HW
      have hglr : g < wr.heap.size := Nat.lt_trans hgl HWH.out.held.size
      have hszr := HWH.out.held.size
      cases mo with
      | none =>
        obtain rfl : r = [] := by rcases hidx with ⟨_, h⟩ | ⟨_, h, _⟩; exact h; cases h
        obtain ⟨HQ, hboxq, hiq⟩ := held_idx HWH.out.held HWH.out.box hgl
        have HQ0 : Hid (Held g (.slice va l.length vc) (some wr.heap.size) none w ((wr.setCell ⟨g, 3, none⟩ (.map (some wr.heap.size))).alloc (.map #[] 0)) ∧ ((wr.setCell ⟨g, 3, none⟩ (.map (some wr.heap.size))).alloc (.map #[] 0)).heap[w.heap.size]? = some (.cells #[.string nm, .slice da k dc, fv] 89 (0, 0)) ∧ Idx ((wr.setCell ⟨g, 3, none⟩ (.map (some wr.heap.size))).alloc (.map #[] 0)) (some wr.heap.size) []) := ⟨HQ, hboxq, hiq⟩
        clear HQ hboxq hiq hidx
        go_wp2_with fail
        obtain ⟨HQ, hboxq, hiq⟩ := HQ0.out
        clear HQ0
        obtain ⟨mq, hmq⟩ : ∃ mq, mq = wr.heap.size := ⟨_, rfl⟩
        have hmo : Hid (w.heap.size ≤ mq) := (show w.heap.size ≤ mq by omega)
        rw [← hmq] at HQ hboxq hiq ⊢
        obtain ⟨wq, hwq⟩ : ∃ wq, wq = (wr.setCell ⟨g, 3, none⟩ (.map (some mq))).alloc (.map #[] 0) := ⟨_, rfl⟩
        rw [← hwq] at HQ hboxq hiq ⊢
        clear hwq hmq hc2 hc3 d0 d1 d2 hcf HWH hglr hszr
        have hupd := (hiq.drew).put nm hnm (by rw [hrl]; unfold maxLen; omega)
        obtain ⟨w2, hup, hidx2, hgr2⟩ := hupd
        rw [hrl] at hup
        obtain ⟨t1, t2, t3, t4⟩ := tail_facts HQ hboxq hiq HROW.out hgb hgl hidx2 hgr2
        have hsz2 : w.heap.size < w2.heap.size := Nat.lt_of_lt_of_le HQ.size hgr2.size
        have hgl2 : g < w2.heap.size := by omega
        have HQH : Hid (Held g (.slice va l.length vc) (some mq) none w wq) := HQ
        have HT : Hid (w2.heap[g]? = some (.cells (gCells 1 (.slice va l.length vc) (some mq) none) 83 (0, 0)) ∧ w2.ownsRow base 89 3 (.slice va l.length vc) l.length (dcs l) ∧ (∀ k, (Value.slice va l.length vc).ownBlock = some k → k ≠ mq)) := ⟨t1, t3, t4⟩
        have HI2 : Hid (Idx w2 (some mq) (nm :: []) ∧ wq.drew.grownBy w2 (some mq)) := ⟨hidx2, hgr2⟩
        have q2 := HQ.c2
        have q3 := HQ.c3
        have q0 : wq.cell? ⟨w.heap.size, 0, none⟩ = some (.string nm) := by rw [cell_of_row _ _ _ _ _ _ hboxq]; rfl
        have p2 : w2.cell? ⟨g, 2, none⟩ = some (.slice va l.length vc) := by rw [cell_of_row _ _ _ _ _ _ t1]; rfl
        have p3 : w2.cell? ⟨w.heap.size, 0, none⟩ = some (.string nm) := by rw [cell_of_row _ _ _ _ _ _ t2]; rfl
        have p4 : w2.cell? ⟨w.heap.size, 1, none⟩ = some (.slice da k dc) := by rw [cell_of_row _ _ _ _ _ _ t2]; rfl
        have p5 : w2.cell? ⟨w.heap.size, 2, none⟩ = some fv := by rw [cell_of_row _ _ _ _ _ _ t2]; rfl
        clear HQ hboxq hiq t1 t2 t3 t4 hidx2 hgr2
        refine only_wp ?_
        go_region
        refine only_mk ?_
        clear hup q2 q3 q0
        go_wp2_with fail
        have S1 : Hid (∀ j u, ([.string nm, .slice da k dc, fv] : List Value)[j]? = some u → ((w2.alloc (.cells #[.string nm, .slice da k dc, fv] 89)).drew).cell? ((⟨w2.heap.size, 0, none⟩ : Addr).add j) = some u) := fun j u hu => by
          rw [World.cell?_drew, Addr.add_mid, cell_of_row _ _ _ _ _ _ (heap_alloc_new w2 (.cells #[.string nm, .slice da k dc, fv] 89)), Nat.zero_add]
          simpa using hu
        have S2 : Hid (∀ u ∈ ([.string nm, .slice da k dc, fv] : List Value), u.oneCell' = true) := fun u hu => by
          simp at hu
          rcases hu with rfl | rfl | rfl
          · rfl
          · rfl
          · exact hfv
        have S4 : Hid (((w2.alloc (.cells #[.string nm, .slice da k dc, fv] 89)).drew).heap.size = w2.heap.size + 1) := by show (w2.alloc _).heap.size = _; simp
        have S3 : Hid (base ≤ ((w2.alloc (.cells #[.string nm, .slice da k dc, fv] 89)).drew).heap.size) := (show base ≤ ((w2.alloc (.cells #[.string nm, .slice da k dc, fv] 89)).drew).heap.size by rw [S4.out]; omega)
        refine only_wp ?_
        go_region_law (refine step_append_lies (P := Ybaf.prog) _ rfl (.tmp 89) (.tmp 91) 76 rfl base 89 i0 z0 3 48 Ybaf.underlying76 hi0 hz0 hz1 hz2 hzc (by decide) (.slice va l.length vc) l.length (dcs l) (by simp [Act.eval, Act.put]) ((HT.out.2.1.alloc _).drew) ⟨w2.heap.size, 0, none⟩ 1 1 [.string nm, .slice da k dc, fv] (by simp [Act.eval, Act.put]) rfl S1.out S2.out (by decide) (by unfold maxLen; omega) (by omega) S3.out (w2.heap.size + 1) S4.out ?_; intro g2 cap2 w3 hown3 hgr3 hor3 hlt3; obtain ⟨b3, b4, HAD⟩ := added_mk (mo := none) (r := []) (d := (nm, .slice da k dc, fv)) hgl hgb hbase HQH.out (.inr hmo.out) HT.out.1 HT.out.2.1 HT.out.2.2 HI2.out.1 HI2.out.2 hown3 hgr3 hor3; have HADH : Hid (Added base g l (nm, .slice da k dc, fv) (.slice va l.length vc) none [] (.slice (some ⟨g2, 0, none⟩) (l.length + 1) cap2) mq w ((w3.setCell ⟨g, 2, none⟩ (.slice (some ⟨g2, 0, none⟩) (l.length + 1) cap2)).setCell ⟨g, 0, none⟩ (.int .i32 0))) := HAD; have e2 : w3.cell? ⟨g, 2, none⟩ = some (.slice va l.length vc) := (by rw [cell_of_row _ _ _ _ _ _ b3]; rfl); have e3 : w3.frozen? ⟨g, 2, none⟩ = false := frozen_of_row _ _ _ _ _ b3; have e4 : Hid ((w3.setCell ⟨g, 2, none⟩ (.slice (some ⟨g2, 0, none⟩) (l.length + 1) cap2)).heap[g]? = some (.cells (gCells 1 (.slice (some ⟨g2, 0, none⟩) (l.length + 1) cap2) (some mq) none) 83 (0, 0))) := b4; clear HAD b3 b4 hown3 hgr3 hor3)
        all_goals
          refine only_mk ?_
          go_wp2
          refine leaves_cons (f := 33) (args := #[.pointer (some ⟨g, 0, none⟩)]) (by simp) (by simp [go_sem]) ?_
          refine (unlock_deferred Ybaf.muLib ⟨g, 0, none⟩ .returning _ (by rw [cell_of_row _ _ _ _ _ _ e4.out]; rfl) (frozen_of_row _ _ _ _ _ e4.out)).mono ?_
          rintro e u' w'' ⟨rfl, rfl, rfl⟩
          exact ⟨_, results_tmp rfl _ _ _, .inr ⟨HL.out, rfl, _, _, HADH.out⟩⟩
      | some m0 =>
        go_wp2_with fail
        have HQ := HWH.out.held
        have hboxq := HWH.out.box
        have hiq := hidx
        clear hc2 hc3 d0 d1 d2 hcf HWH hglr hszr hidx
        have hupd := (hiq.drew).put nm hnm (by rw [hrl]; unfold maxLen; omega)
        obtain ⟨w2, hup, hidx2, hgr2⟩ := hupd
        rw [hrl] at hup
        obtain ⟨t1, t2, t3, t4⟩ := tail_facts HQ hboxq hiq HROW.out hgb hgl hidx2 hgr2
        have hsz2 : w.heap.size < w2.heap.size := Nat.lt_of_lt_of_le HQ.size hgr2.size
        have hgl2 : g < w2.heap.size := by omega
        have HQH : Hid (Held g (.slice va l.length vc) (some m0) none w wr) := HQ
        have HT : Hid (w2.heap[g]? = some (.cells (gCells 1 (.slice va l.length vc) (some m0) none) 83 (0, 0)) ∧ w2.ownsRow base 89 3 (.slice va l.length vc) l.length (dcs l) ∧ (∀ k, (Value.slice va l.length vc).ownBlock = some k → k ≠ m0)) := ⟨t1, t3, t4⟩
        have HI2 : Hid (Idx w2 (some m0) (nm :: r) ∧ wr.drew.grownBy w2 (some m0)) := ⟨hidx2, hgr2⟩
        have q2 := HQ.c2
        have q3 := HQ.c3
        have q0 : wr.cell? ⟨w.heap.size, 0, none⟩ = some (.string nm) := by rw [cell_of_row _ _ _ _ _ _ hboxq]; rfl
        have p2 : w2.cell? ⟨g, 2, none⟩ = some (.slice va l.length vc) := by rw [cell_of_row _ _ _ _ _ _ t1]; rfl
        have p3 : w2.cell? ⟨w.heap.size, 0, none⟩ = some (.string nm) := by rw [cell_of_row _ _ _ _ _ _ t2]; rfl
        have p4 : w2.cell? ⟨w.heap.size, 1, none⟩ = some (.slice da k dc) := by rw [cell_of_row _ _ _ _ _ _ t2]; rfl
        have p5 : w2.cell? ⟨w.heap.size, 2, none⟩ = some fv := by rw [cell_of_row _ _ _ _ _ _ t2]; rfl
        clear HQ hboxq hiq t1 t2 t3 t4 hidx2 hgr2
        refine only_wp ?_
        go_region
        refine only_mk ?_
        clear hup q2 q3 q0
        go_wp2_with fail
        have S1 : Hid (∀ j u, ([.string nm, .slice da k dc, fv] : List Value)[j]? = some u → ((w2.alloc (.cells #[.string nm, .slice da k dc, fv] 89)).drew).cell? ((⟨w2.heap.size, 0, none⟩ : Addr).add j) = some u) := fun j u hu => by
          rw [World.cell?_drew, Addr.add_mid, cell_of_row _ _ _ _ _ _ (heap_alloc_new w2 (.cells #[.string nm, .slice da k dc, fv] 89)), Nat.zero_add]
          simpa using hu
        have S2 : Hid (∀ u ∈ ([.string nm, .slice da k dc, fv] : List Value), u.oneCell' = true) := fun u hu => by
          simp at hu
          rcases hu with rfl | rfl | rfl
          · rfl
          · rfl
          · exact hfv
        have S4 : Hid (((w2.alloc (.cells #[.string nm, .slice da k dc, fv] 89)).drew).heap.size = w2.heap.size + 1) := by show (w2.alloc _).heap.size = _; simp
        have S3 : Hid (base ≤ ((w2.alloc (.cells #[.string nm, .slice da k dc, fv] 89)).drew).heap.size) := (show base ≤ ((w2.alloc (.cells #[.string nm, .slice da k dc, fv] 89)).drew).heap.size by rw [S4.out]; omega)
        refine only_wp ?_
        go_region_law (refine step_append_lies (P := Ybaf.prog) _ rfl (.tmp 89) (.tmp 91) 76 rfl base 89 i0 z0 3 48 Ybaf.underlying76 hi0 hz0 hz1 hz2 hzc (by decide) (.slice va l.length vc) l.length (dcs l) (by simp [Act.eval, Act.put]) ((HT.out.2.1.alloc _).drew) ⟨w2.heap.size, 0, none⟩ 1 1 [.string nm, .slice da k dc, fv] (by simp [Act.eval, Act.put]) rfl S1.out S2.out (by decide) (by unfold maxLen; omega) (by omega) S3.out (w2.heap.size + 1) S4.out ?_; intro g2 cap2 w3 hown3 hgr3 hor3 hlt3; obtain ⟨b3, b4, HAD⟩ := added_mk (mo := some m0) (r := r) (d := (nm, .slice da k dc, fv)) hgl hgb hbase HQH.out (.inl rfl) HT.out.1 HT.out.2.1 HT.out.2.2 HI2.out.1 HI2.out.2 hown3 hgr3 hor3; have HADH : Hid (Added base g l (nm, .slice da k dc, fv) (.slice va l.length vc) (some m0) r (.slice (some ⟨g2, 0, none⟩) (l.length + 1) cap2) m0 w ((w3.setCell ⟨g, 2, none⟩ (.slice (some ⟨g2, 0, none⟩) (l.length + 1) cap2)).setCell ⟨g, 0, none⟩ (.int .i32 0))) := HAD; have e2 : w3.cell? ⟨g, 2, none⟩ = some (.slice va l.length vc) := (by rw [cell_of_row _ _ _ _ _ _ b3]; rfl); have e3 : w3.frozen? ⟨g, 2, none⟩ = false := frozen_of_row _ _ _ _ _ b3; have e4 : Hid ((w3.setCell ⟨g, 2, none⟩ (.slice (some ⟨g2, 0, none⟩) (l.length + 1) cap2)).heap[g]? = some (.cells (gCells 1 (.slice (some ⟨g2, 0, none⟩) (l.length + 1) cap2) (some m0) none) 83 (0, 0))) := b4; clear HAD b3 b4 hown3 hgr3 hor3)
        all_goals
          refine only_mk ?_
          go_wp2
          refine leaves_cons (f := 33) (args := #[.pointer (some ⟨g, 0, none⟩)]) (by simp) (by simp [go_sem]) ?_
          refine (unlock_deferred Ybaf.muLib ⟨g, 0, none⟩ .returning _ (by rw [cell_of_row _ _ _ _ _ _ e4.out]; rfl) (frozen_of_row _ _ _ _ _ e4.out)).mono ?_
          rintro e u' w'' ⟨rfl, rfl, rfl⟩
          exact ⟨_, results_tmp rfl _ _ _, .inr ⟨HL.out, rfl, _, _, HADH.out⟩⟩
end Go.Proofs.YbulkecmmFmt
