/-
  (*atomic.Pointer[plan]).Load and .Store, one goroutine, by contract.
-/
import Derived.Test.YbulkecmmFmtLocks
import Derived.Test.YbulkecmmFmtErr
import Derived.Laws.LoneSync
import Derived.Laws.Pointers
import Derived.Lib.Builder
set_option linter.unusedVariables false
set_option linter.unusedSimpArgs false
namespace Go.Proofs.YbulkecmmFmt
open Go.RowKit

theorem call34 (a : Addr) (x : Option Addr) (w : World) (hc : w.cell? a = some (.pointer x)) : (callFunc 34 #[.pointer (some a)]).run Ybaf.prog w = .ok (.value (.pointer x)) w := by
  rw [run_callFunc_extern (e := Extern.Atomic.loadT .ptr) Ybaf.func34 (by kernel_rfl) (by kernel_rfl) (by kernel_rfl) (by kernel_rfl)]
  change (Sem.run Ybaf.prog (do Extern.Atomic.read .ptr (← asAddr (.pointer (some a)))) w).andThen _ = _
  simp [Extern.Atomic.read, asAddr, hc, Result.andThen]

theorem call31 (a : Addr) (x : Option Addr) (u : Value) (w : World) (hc : w.cell? a = some u) (hz : w.frozen? a = false) : (callFunc 31 #[.pointer (some a), .pointer x]).run Ybaf.prog w = .ok (.value (.tuple #[])) (w.setCell a (.pointer x)) := by
  rw [run_callFunc_extern (e := Extern.Atomic.storeT) Ybaf.func31 (by kernel_rfl) (by kernel_rfl) (by kernel_rfl) (by kernel_rfl)]
  change (Sem.run Ybaf.prog (do
    store (← asAddr (.pointer (some a))) (.pointer x) .atomic
    pure Extern.Atomic.none_) w).andThen _ = _
  simp [asAddr, hc, hz, run_store Ybaf.prog w a (.pointer x) .atomic rfl, Result.andThen, Extern.Atomic.none_]

theorem conv_nil (w : World) : (convert 47 78 (.pointer none)).run Ybaf.prog w = .ok (.pointer none) w := by kernel_rfl
theorem Ybaf.info94 : (Ybaf.prog.info? 94).isSome = true := by kernel_rfl
theorem Ybaf.cells94 : Ybaf.prog.cellsOf 94 = 3 := by kernel_rfl
theorem lies94 : liesAt Ybaf.prog Ybaf.prog.depth 94 1 0 94 1 = true := by kernel_rfl
theorem conv_plan (p : Nat) (c0 c1 c2 : Value) (fr : Nat × Nat) (w : World) (hp : w.heap[p]? = some (.cells #[c0, c1, c2] 94 fr)) : (convert 47 78 (.pointer (some ⟨p, 0, none⟩))).run Ybaf.prog w = .ok (.pointer (some ⟨p, 0, none⟩)) w := by
  obtain ⟨j, hj⟩ := Option.isSome_iff_exists.1 Ybaf.info94
  exact Lib.run_from_unsafe (P := Ybaf.prog) (w := w) (src := 47) (dst := 78) (u := 94) (e := 94) (cells := 3) ⟨p, 0, none⟩ Ybaf.underlying47 Ybaf.underlying78 hj (by simp [World.shape?, hp]) (by rw [Ybaf.cells94]; exact lies94)

set_option maxRecDepth 100000 in
set_option maxHeartbeats 400000 in
theorem load_nil (a : Addr) (w : World) (h : w.cell? a = some (.pointer none)) :
    Calls Ybaf.prog 16 #[.pointer (some a)] w fun e w' => e = .returned (.pointer none) ∧ w' = w := by
  have h34 := call34 a none w h
  have hcv := conv_nil
  go_enter Ybaf.func16, Ybaf.ntmps16
  go_wp2
  go_ret
  exact ⟨rfl, rfl⟩
set_option maxRecDepth 100000 in
set_option maxHeartbeats 400000 in
theorem load_plan (a : Addr) (p : Nat) (c0 c1 c2 : Value) (fr : Nat × Nat) (w : World) (h : w.cell? a = some (.pointer (some ⟨p, 0, none⟩))) (hp : w.heap[p]? = some (.cells #[c0, c1, c2] 94 fr)) :
    Calls Ybaf.prog 16 #[.pointer (some a)] w fun e w' => e = .returned (.pointer (some ⟨p, 0, none⟩)) ∧ w' = w := by
  have h34 := call34 a _ w h
  have hcv := conv_plan p c0 c1 c2 fr w hp
  clear hp
  go_enter Ybaf.func16, Ybaf.ntmps16
  go_wp2
  go_ret
  exact ⟨rfl, rfl⟩
set_option maxRecDepth 100000 in
set_option maxHeartbeats 400000 in
theorem store_plan (a : Addr) (p : Nat) (x : Option Addr) (v : Value) (w : World) (h : w.cell? a = some (.pointer x)) (hf : w.frozen? a = false) (hp : w.cell? ⟨p, 0, none⟩ = some v) :
    Calls Ybaf.prog 13 #[.pointer (some a), .pointer (some ⟨p, 0, none⟩)] w fun e w' => e = .returned (.tuple #[]) ∧ w' = w.setCell a (.pointer (some ⟨p, 0, none⟩)) := by
  have h31 := call31 a (some ⟨p, 0, none⟩) _ w h hf
  have hcv := run_convert_to_unsafe (P := Ybaf.prog) (src := 78) (dst := 47) (t := 94) Ybaf.underlying78 Ybaf.underlying47 (by kernel_rfl) hp
  clear hp
  go_enter Ybaf.func13, Ybaf.ntmps13
  go_wp2
  go_end0
  exact ⟨rfl, rfl⟩
end Go.Proofs.YbulkecmmFmt
