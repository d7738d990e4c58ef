/-
  atomic.Uint64's Load, Store, CompareAndSwap, atomic.Bool's Load, sequence.wake, one goroutine, by contract.
-/
import Derived.Test.YbulkecmmFmtChecked
import Derived.WalkKit
import Derived.Laws.LoneSync
import Derived.RowKitTokens
set_option linter.unusedVariables false
set_option linter.unusedSimpArgs false
namespace Go.Proofs.YbulkecmmFmt
open Go.RowKit

theorem call19 (a : Addr) (x : Int) (u : Value) (w : World) (hc : w.cell? a = some u) (hz : w.frozen? a = false) : (callFunc 19 #[.pointer (some a), .int .u64 x]).run Ybaf.prog w = .ok (.value (.tuple #[])) (w.setCell a (.int .u64 x)) :=
  run_call_store Ybaf.func19 (by kernel_rfl) (by kernel_rfl) (by kernel_rfl) (by kernel_rfl) hc hz
theorem call28 (a : Addr) (x : Int) (w : World) (hc : w.cell? a = some (.int .u64 x)) : (callFunc 28 #[.pointer (some a)]).run Ybaf.prog w = .ok (.value (.int .u64 x)) w :=
  run_call_load Ybaf.func28 (by kernel_rfl) (by kernel_rfl) (by kernel_rfl) .u64 (by kernel_rfl) hc
theorem call46 (a : Addr) (x : Int) (w : World) (hc : w.cell? a = some (.int .u32 x)) : (callFunc 46 #[.pointer (some a)]).run Ybaf.prog w = .ok (.value (.int .u32 x)) w :=
  run_call_load Ybaf.func46 (by kernel_rfl) (by kernel_rfl) (by kernel_rfl) .u32 (by kernel_rfl) hc
theorem call37_hit (a : Addr) (x y : Int) (w : World) (hc : w.cell? a = some (.int .u64 x)) (hz : w.frozen? a = false) : (callFunc 37 #[.pointer (some a), .int .u64 x, .int .u64 y]).run Ybaf.prog w = .ok (.value (.bool true)) (w.setCell a (.int .u64 y)) :=
  run_call_cas_hit Ybaf.func37 (by kernel_rfl) (by kernel_rfl) (by kernel_rfl) .u64 (by kernel_rfl) hc hz
theorem call37_miss (a : Addr) (x o y : Int) (w : World) (hc : w.cell? a = some (.int .u64 x)) (hz : w.frozen? a = false) (hne : ¬ x = o) : (callFunc 37 #[.pointer (some a), .int .u64 o, .int .u64 y]).run Ybaf.prog w = .ok (.value (.bool false)) w :=
  run_call_cas_miss Ybaf.func37 (by kernel_rfl) (by kernel_rfl) (by kernel_rfl) .u64 (by kernel_rfl) hc hz hne

set_option maxRecDepth 100000 in
theorem store_u64 (b o : Nat) (x : Int) (u : Value) (w : World) (hc : w.cell? ⟨b, o, none⟩ = some u) (hz : w.frozen? ⟨b, o, none⟩ = false) :
    Calls Ybaf.prog 5 #[.pointer (some ⟨b, o, none⟩), .int .u64 x] w fun e w' => e = .returned (.tuple #[]) ∧ w' = w.setCell ⟨b, o, none⟩ (.int .u64 x) := by
  have h := call19 ⟨b, o, none⟩ x u w hc hz
  clear hc hz
  go_enter Ybaf.func5, Ybaf.ntmps5
  go_wp2
  go_end0
  exact ⟨rfl, rfl⟩

set_option maxRecDepth 100000 in
theorem load_u64 (b o : Nat) (x : Int) (w : World) (hc : w.cell? ⟨b, o, none⟩ = some (.int .u64 x)) :
    Calls Ybaf.prog 9 #[.pointer (some ⟨b, o, none⟩)] w fun e w' => e = .returned (.int .u64 x) ∧ w' = w := by
  have h := call28 ⟨b, o, none⟩ x w hc
  clear hc
  go_enter Ybaf.func9, Ybaf.ntmps9
  go_wp2
  go_ret
  exact ⟨rfl, rfl⟩

set_option maxRecDepth 100000 in
theorem cas_hit (b o : Nat) (x y : Int) (w : World) (hc : w.cell? ⟨b, o, none⟩ = some (.int .u64 x)) (hz : w.frozen? ⟨b, o, none⟩ = false) :
    Calls Ybaf.prog 21 #[.pointer (some ⟨b, o, none⟩), .int .u64 x, .int .u64 y] w fun e w' => e = .returned (.bool true) ∧ w' = w.setCell ⟨b, o, none⟩ (.int .u64 y) := by
  have h := call37_hit ⟨b, o, none⟩ x y w hc hz
  clear hc hz
  go_enter Ybaf.func21, Ybaf.ntmps21
  go_wp2
  go_ret
  exact ⟨rfl, rfl⟩

set_option maxRecDepth 100000 in
theorem cas_miss (b o : Nat) (x z y : Int) (w : World) (hc : w.cell? ⟨b, o, none⟩ = some (.int .u64 x)) (hz : w.frozen? ⟨b, o, none⟩ = false) (hne : ¬ x = z) :
    Calls Ybaf.prog 21 #[.pointer (some ⟨b, o, none⟩), .int .u64 z, .int .u64 y] w fun e w' => e = .returned (.bool false) ∧ w' = w := by
  have h := call37_miss ⟨b, o, none⟩ x z y w hc hz hne
  clear hc hz
  go_enter Ybaf.func21, Ybaf.ntmps21
  go_wp2
  go_ret
  exact ⟨rfl, rfl⟩

set_option maxRecDepth 100000 in
theorem bool_load (b o : Nat) (w : World) (hc : w.cell? ⟨b, o, none⟩ = some (.int .u32 0)) :
    Calls Ybaf.prog 39 #[.pointer (some ⟨b, o, none⟩)] w fun e w' => e = .returned (.bool false) ∧ w' = w := by
  have h := call46 ⟨b, o, none⟩ 0 w hc
  clear hc
  go_enter Ybaf.func39, Ybaf.ntmps39
  go_wp2
  go_ret
  exact ⟨rfl, rfl⟩

set_option maxRecDepth 100000 in
theorem wake_none (b o : Nat) (w : World) (hc : w.cell? ⟨b, o + 129, none⟩ = some (.int .u32 0)) :
    Calls Ybaf.prog 23 #[.pointer (some ⟨b, o, none⟩)] w fun e w' => e = .returned (.tuple #[]) ∧ w' = w := by
  go_enter Ybaf.func23, Ybaf.ntmps23
  go_wp2_with (go_at_call 39; refine (bool_load b (o + 129) w hc).mono ?_; rintro e w' ⟨rfl, rfl⟩)
  go_end0
  exact ⟨rfl, rfl⟩

end Go.Proofs.YbulkecmmFmt
