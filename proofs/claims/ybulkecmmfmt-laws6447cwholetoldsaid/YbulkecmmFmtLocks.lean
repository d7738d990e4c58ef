/-
  The numbers under which this dump holds the library's sync.Mutex, and that it holds it (after the worked StatsLocks.lean).
-/
import Derived.Test.YbulkecmmFmtProg
import Derived.Conc.MuLib
import Derived.KernelRfl
namespace Go.Proofs
abbrev Ybaf.muLink : Go.Conc.Locks.MuLink := { lock := 32, unlock := 33, ilock := 44, iunlock := 45, lockSlow := 55, unlockSlow := 58, disable := 51, enable := 53, acquire := 54, relMerge := 56, cas32 := 52, add32 := 57, tMutex := 44, tIMutex := 42, tPMutex := 105, tPIMutex := 152, tPI32 := 154, tUP := 47, tNoCopy := 40, tU32 := 22 }
theorem Ybaf.muLib : Go.Conc.Locks.MuLib Ybaf.prog Ybaf.muLink :=
  ⟨Ybaf.func32, Ybaf.func33, Ybaf.func44, Ybaf.func45, Ybaf.func51, Ybaf.func53, Ybaf.func54, Ybaf.func56, Ybaf.func52, Ybaf.func57, Ybaf.underlying42, Ybaf.runUnderlying42, Ybaf.sizeOf42, Ybaf.isAgg42, Ybaf.zeroValue42, Ybaf.underlying44, Ybaf.runUnderlying44, Ybaf.sizeOf44, Ybaf.isAgg44, Ybaf.zeroValue44, Ybaf.underlying105, Ybaf.runUnderlying105, Ybaf.sizeOf105, Ybaf.isAgg105, Ybaf.zeroValue105, Ybaf.underlying152, Ybaf.runUnderlying152, Ybaf.sizeOf152, Ybaf.isAgg152, Ybaf.zeroValue152, Ybaf.underlying154, Ybaf.runUnderlying154, Ybaf.sizeOf154, Ybaf.isAgg154, Ybaf.zeroValue154, Ybaf.underlying47, Ybaf.runUnderlying47, Ybaf.sizeOf47, Ybaf.isAgg47, Ybaf.zeroValue47, Ybaf.underlying40, Ybaf.runUnderlying40, Ybaf.sizeOf40, Ybaf.isAgg40, Ybaf.zeroValue40, Ybaf.underlying21, Ybaf.runUnderlying21, Ybaf.sizeOf21, Ybaf.isAgg21, Ybaf.zeroValue21, (by kernel_rfl)⟩
end Go.Proofs
