/-
  (*Graph).declare, a name that is there already.
-/
import Derived.Test.YbulkecmmFmtDec1
import Derived.Test.YbulkecmmFmtIdx
set_option linter.unusedVariables false
set_option linter.unusedSimpArgs false
namespace Go.Proofs.YbulkecmmFmt
open Go.RowKit Go.MuLone Go.Extern.Stop Go.Stop Go.Extern

/-- Behind a refusal: the lock is given back. -/
theorem refused_mk {g : Nat} {vD : Value} {mo : Option Nat} {aD : Addr} {w w1 : World} {o : Obj} (text : ByteArray) (hb : w.heap[g]? = some (.cells (gCells 0 vD mo none) 83 (0, 0))) (h : Held g vD mo none w w1) :
    Held g vD mo none w (((w1.alloc o).drew.alloc (.cells #[.string text, .iface 142 (.pointer (some aD))] 205)).drew) ∧
    ((((w1.alloc o).drew.alloc (.cells #[.string text, .iface 142 (.pointer (some aD))] 205)).drew).setCell ⟨g, 0, none⟩ (.int .i32 0)).heap[w1.heap.size + 1]? = some (.cells #[.string text, .iface 142 (.pointer (some aD))] 205 (0, 0)) ∧ w.heap.size ≤ w1.heap.size + 1 := by
  have hgl := lt_of_heap hb
  have hsz := h.size
  have hz : (w1.alloc o).drew.heap.size = w1.heap.size + 1 := by show (w1.alloc o).heap.size = _; simp
  refine ⟨h.next (((((Below.refl _ _).alloc (Nat.le_refl _) _).drew).alloc (by omega) _).drew), ?_, by omega⟩
  rw [Below.heap_setCell _ _ _ _ (by show w1.heap.size + 1 ≠ g; omega), ← hz]
  exact heap_alloc_new _ _

/-- What comes back where declare refuses: a wrapError around the sentinel at a; all that was is as it was. -/
def Refused (a : Addr) (w : World) (e : Ending) (w' : World) : Prop :=
  ∃ (b : Nat) (text : ByteArray), e = .returned (.iface 128 (.pointer (some ⟨b, 0, none⟩))) ∧ w'.heap[b]? = some (.cells #[.string text, .iface 142 (.pointer (some a))] 205 (0, 0)) ∧ w.heap.size ≤ b ∧ Below w.heap.size w w'

set_option maxRecDepth 100000 in
set_option maxHeartbeats 400000 in
theorem declare_dup (F : Interp) (g : Nat) (vD : Value) (mo : Option Nat) (r : List ByteArray) (aD : Addr) (s nm : ByteArray) (dv fv : Value) (w : World) (hF : F.answers w.tape)
    (hb : w.heap[g]? = some (.cells (gCells 0 vD mo none) 83 (0, 0))) (hg6 : 5 ≤ g) (hi : Idx w mo r) (hnm : nm.size ≤ maxLen) (hmem : memB nm r = true)
    (hE : w.cell? ⟨4, 0, none⟩ = some (.iface 142 (.pointer (some aD)))) (hs : w.cell? aD = some (.string s)) (hag : aD.block ≠ g) :
    Calls Ybaf.prog 14 #[.pointer (some ⟨g, 0, none⟩), .agg #[.string nm, dv, fv]] w (Refused aD w) := by
  have hgl := lt_of_heap hb
  have HH := held_mk hb (.cells #[.string nm, dv, fv] 89)
  have hb1 : (w.alloc (.cells #[.string nm, dv, fv] 89)).heap[g]? = some (.cells (gCells 0 vD mo none) 83 (0, 0)) := by rw [Below.heap_alloc _ _ _ hgl]; exact hb
  have l0 : (w.alloc (.cells #[.string nm, dv, fv] 89)).cell? ⟨g, 0, none⟩ = some (.int .i32 0) := by rw [cell_of_row _ _ _ _ _ _ hb1]; rfl
  have lf : (w.alloc (.cells #[.string nm, dv, fv] 89)).frozen? ⟨g, 0, none⟩ = false := frozen_of_row _ _ _ _ _ hb1
  have hd0 : ((w.alloc (.cells #[.string nm, dv, fv] 89)).setCell ⟨g, 0, none⟩ (.int .i32 1)).cell? ⟨w.heap.size, 0, none⟩ = some (.string nm) := by
    rw [World.cell?_setCell_other _ _ _ _ (fun e => by have := congrArg Addr.block e; simp at this; omega)]; simp
  clear hb1
  go_enter_defers Ybaf.func14, Ybaf.ntmps14
  go_wp2_with fail
  refine (lock_free Ybaf.muLib ⟨g, 0, none⟩ _ l0 lf).mono ?_
  rintro e w1 ⟨rfl, hw1⟩
  rw [← hw1] at HH hd0
  have hE1 := HH.cell hE (by show (4 : Nat) ≠ g; omega)
  have hs1 := HH.cell hs hag
  have hi1 : Idx w1 mo r := hi.same (fun mb e => by subst e; exact HH.oth mb hi.lt (hi.not_cells hb))
  obtain ⟨a0, hlk, _⟩ := (hi1.drew).look nm hnm
  rw [hmem] at hlk
  have hc3 := HH.c3
  have hc4 := HH.c4
  have htp : F.answers w1.tape := by rw [HH.tape]; exact hF
  have HHH : Hid (Held g vD mo none w w1) := HH
  clear hw1 HH l0 lf hE hs hi hi1
  go_wp2_with (go_at_call 16; refine (load_nil _ _ hc4).mono ?_; rintro e w' ⟨rfl, rfl⟩)
  go_region
  clear hlk
  go_wp2_with fail
  refine (errorf2 F _ aD s nm _ (by exact htp) ?hc ?h0 ?h1).mono ?_
  case hc => rw [World.cell?_drew, World.cell?_alloc_lt _ _ _ (World.block_lt_of_cell? _ _ hs1)]; exact hs1
  case h0 => simp
  case h1 => simp
  rintro e w2 ⟨text, rfl, rfl⟩
  obtain ⟨H2, hbk, hle⟩ := refused_mk (aD := aD) (o := .cells #[.iface 142 (.pointer (some aD)), .iface 9 (.string nm)] 20) text hb HHH.out
  have H2H : Hid (Held g vD mo none w (((w'.alloc (.cells #[.iface 142 (.pointer (some aD)), .iface 9 (.string nm)] 20)).drew.alloc (.cells #[.string text, .iface 142 (.pointer (some aD))] 205)).drew)) := H2
  clear H2
  go_wp2
  refine leaves_cons (f := 33) (args := #[.pointer (some ⟨g, 0, none⟩)]) (by simp) (by simp [go_sem]) ?_
  refine (unlock_deferred Ybaf.muLib ⟨g, 0, none⟩ .returning _ H2H.out.c0 (H2H.out.free 0)).mono ?_
  rintro e u' w'' ⟨rfl, rfl, rfl⟩
  exact ⟨_, results_tmp rfl _ _ _, w'.heap.size + 1, text, rfl, hbk, hle, H2H.out.back hb⟩
end Go.Proofs.YbulkecmmFmt
