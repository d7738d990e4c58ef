/-
  (*Graph).declare on a frozen graph.
-/
import Derived.Test.YbulkecmmFmtGr
import Derived.Laws.EntriesVeiled
set_option linter.unusedVariables false
set_option linter.unusedSimpArgs false
namespace Go.Proofs.YbulkecmmFmt
open Go.RowKit Go.MuLone

set_option maxRecDepth 100000 in
set_option maxHeartbeats 400000 in
theorem declare_frozen (g p : Nat) (vD : Value) (mo : Option Nat) (c0 c1 c2 : Value) (fr : Nat × Nat) (aF : Addr) (nm : ByteArray) (dv fv : Value) (w : World)
    (hb : w.heap[g]? = some (.cells (gCells 0 vD mo (some ⟨p, 0, none⟩)) 83 (0, 0))) (hp : w.heap[p]? = some (.cells #[c0, c1, c2] 94 fr)) (hgp : g ≠ p) (hg6 : 5 ≤ g)
    (hE : w.cell? ⟨3, 0, none⟩ = some (.iface 142 (.pointer (some aF)))) :
    Calls Ybaf.prog 14 #[.pointer (some ⟨g, 0, none⟩), .agg #[.string nm, dv, fv]] w fun e w' => e = .returned (.iface 142 (.pointer (some aF))) ∧ Below w.heap.size w w' := by
  have hgl := lt_of_heap hb
  have hpl := lt_of_heap hp
  have HH := held_mk hb (.cells #[.string nm, dv, fv] 89)
  have hb1 : (w.alloc (.cells #[.string nm, dv, fv] 89)).heap[g]? = some (.cells (gCells 0 vD mo (some ⟨p, 0, none⟩)) 83 (0, 0)) := by rw [Below.heap_alloc _ _ _ hgl]; exact hb
  have l0 : (w.alloc (.cells #[.string nm, dv, fv] 89)).cell? ⟨g, 0, none⟩ = some (.int .i32 0) := by rw [cell_of_row _ _ _ _ _ _ hb1]; rfl
  have lf : (w.alloc (.cells #[.string nm, dv, fv] 89)).frozen? ⟨g, 0, none⟩ = false := frozen_of_row _ _ _ _ _ hb1
  clear hb1
  go_enter_defers Ybaf.func14, Ybaf.ntmps14
  go_wp2_with fail
  refine (lock_free Ybaf.muLib ⟨g, 0, none⟩ _ l0 lf).mono ?_
  rintro e w1 ⟨rfl, hw1⟩
  rw [← hw1] at HH
  have hp1 : w1.heap[p]? = some (.cells #[c0, c1, c2] 94 fr) := (HH.oth p hpl (Ne.symm hgp)).trans hp
  have hE1 := HH.cell hE (by show (3 : Nat) ≠ g; omega)
  have hc4 := HH.c4
  have HHH : Hid (Held g vD mo (some ⟨p, 0, none⟩) w w1) := HH
  clear hw1 HH l0 lf hp hE
  go_wp2_with (go_at_call 16; refine (load_plan _ p c0 c1 c2 fr _ hc4 hp1).mono ?_; rintro e w' ⟨rfl, rfl⟩)
  refine leaves_cons (f := 33) (args := #[.pointer (some ⟨g, 0, none⟩)]) (by simp) (by simp [go_sem]) ?_
  refine (unlock_deferred Ybaf.muLib ⟨g, 0, none⟩ .returning _ HHH.out.c0 (HHH.out.free 0)).mono ?_
  rintro e u' w'' ⟨rfl, rfl, rfl⟩
  exact ⟨_, results_tmp rfl _ _ _, rfl, HHH.out.back hb⟩
end Go.Proofs.YbulkecmmFmt
