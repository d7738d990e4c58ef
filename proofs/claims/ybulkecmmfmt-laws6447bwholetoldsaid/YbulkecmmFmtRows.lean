/-
  NARROWER THAN 'FOR EVERY INPUT', by the rows' own cells (each row's printed sentence says how): LawS6447BWhole: ifaces, laid · LawS6447CWhole: ifaces, laid.
  DERIVED. THE GIVEN ROWS OF THIS SEAT. 2 by the template 'for every input the law returns true; each argument reads behind the call as it read before'; 0 by the template 'total and deterministic' (their statements: YbulkecmmFmtTotals.lean).
  GIVEN WITH THE SEED: the statements are not yours to turn. If you find one false, say at which input.
  Laid BY PROGRAM, IN A SANDBOX (cutbox-rows.mjs): the forced cells as the released guide's own fill.sh prints them over the translation 50ba99ae734e1f36… (all of the seat's roots in one cut). By AI agents, Wed Nov 11 2026. No macro, syntax, notation, axiom, sorry.
-/
import Derived.Test.YbulkecmmFmtChecked
import GoSem.Claim
import GoSem.ClaimJoined
import GoSem.ClaimMapViews
import Derived.JoinedTies
import Derived.KernelRfl
namespace Go.Proofs.YbulkecmmFmt
/- THE CELL 'sum', in the pinned program and in every row, IS THE sha256 OF THE DUMP (.gsa) THAT YbulkecmmFmtProg.lean LOADS. Nothing in Lean hashes anything: it is a label: what it is worth is what the hold of that sum in a sandbox is worth. -/
noncomputable def Ybaf.pinned : Pinned := { name := "ybulkecmmfmt", sum := "50ba99ae734e1f364deaf1b373ced90e4509a02cf06c34186f16b25ceb71f458", checked := Ybaf.checked }
namespace Rows
def none {H : Type} : Left H := { results := [], args := [] }

/- WHAT THE LISTED PACKAGE-LEVEL VARIABLES READ AS WHEN THE CALL BEGINS. Each datum BY PROGRAM (the guide's laid-datum.mjs) off the statement by which the dump's own 'gosem.cut.vars' lays the variable. In a bare row this is a premise. The card (YbulkecmmFmtCards.lean) ties it to the program's text. -/
def laid_example_com_slipring_slipring_ErrBatchSize {H : Type} : DataW H := .iface "*errors.errorString" (.ptr (.agg [.lit (.string [115, 108, 105, 112, 114, 105, 110, 103, 58, 32, 98, 97, 116, 99, 104, 32, 108, 97, 114, 103, 101, 114, 32, 116, 104, 97, 110, 32, 116, 104, 101, 32, 114, 105, 110, 103])]))
def laid_example_com_slipring_slipring_ErrNotStarted {H : Type} : DataW H := .iface "*errors.errorString" (.ptr (.agg [.lit (.string [115, 108, 105, 112, 114, 105, 110, 103, 58, 32, 114, 105, 110, 103, 32, 110, 111, 116, 32, 115, 116, 97, 114, 116, 101, 100])]))
def laid_example_com_slipring_slipring_ErrClosed {H : Type} : DataW H := .iface "*errors.errorString" (.ptr (.agg [.lit (.string [115, 108, 105, 112, 114, 105, 110, 103, 58, 32, 114, 105, 110, 103, 32, 99, 108, 111, 115, 101, 100])]))
def laid_example_com_slipring_slipring_waitPhases {H : Type} : DataW H := .agg [.agg [.lit (.string [66, 97, 99, 107, 111, 102, 102]), .lit (.int .i64 64), .lit (.int .i64 0), .lit (.bool true), .lit (.bool true)], .agg [.lit (.string [83, 112, 105, 110]), .lit (.int .i64 9223372036854775807), .lit (.int .i64 0), .lit (.bool false), .lit (.bool false)], .agg [.lit (.string [89, 105, 101, 108, 100]), .lit (.int .i64 0), .lit (.int .i64 9223372036854775807), .lit (.bool false), .lit (.bool true)], .agg [.lit (.string [66, 108, 111, 99, 107]), .lit (.int .i64 0), .lit (.int .i64 0), .lit (.bool false), .lit (.bool true)]]
def laid_example_com_slipring_slipring_graph_ErrDuplicate {H : Type} : DataW H := .iface "*errors.errorString" (.ptr (.agg [.lit (.string [103, 114, 97, 112, 104, 58, 32, 100, 101, 99, 108, 97, 114, 101, 100, 32, 116, 119, 105, 99, 101])]))
def laid_example_com_slipring_slipring_graph_ErrFrozen {H : Type} : DataW H := .iface "*errors.errorString" (.ptr (.agg [.lit (.string [103, 114, 97, 112, 104, 58, 32, 103, 114, 97, 112, 104, 32, 105, 115, 32, 102, 114, 111, 122, 101, 110])]))

/-- 'slipring.LawS6447BWhole': WHATEVER THE INPUT: true; the input reads as it did. -/
def lawS6447BWholeSpec : ChangeSpec := { name := "lawS6447BWhole", vars := ["example.com/slipring/slipring.ErrBatchSize", "example.com/slipring/slipring.ErrClosed", "example.com/slipring/slipring.ErrNotStarted", "example.com/slipring/slipring.waitPhases"], fn := fun _ => fun
  | [d1, d2, d3, d4, d5, d6, d7, d8, d9, g1, g2, g3, g4] => { results := [.lit (.bool true)], args := [d1, d2, d3, d4, d5, d6, d7, d8, d9], vars := [g1, g2, g3, g4] }
  | _ => none }
def lawS6447BWholeRow : OpenClaim := { program := "ybulkecmmfmt", sum := "50ba99ae734e1f364deaf1b373ced90e4509a02cf06c34186f16b25ceb71f458", func := "example.com/slipring/slipring.LawS6447BWhole", spec := "lawS6447BWhole", stops := ["fmt.errorf"], inPlace := ["sync/atomic.StoreUint64", "fmt.errorf", "sync/atomic.CompareAndSwapUint64", "sync/atomic.LoadUint64", "sync/atomic.LoadUint32", "sync/atomic.SwapUint32", "(*internal/sync.Mutex).Lock", "internal/race.Disable", "sync/atomic.CompareAndSwapInt32", "internal/race.Enable", "internal/race.Acquire", "(*internal/sync.Mutex).lockSlow", "internal/sync.runtime_canSpin", "internal/sync.runtime_doSpin", "internal/sync.throw", "internal/sync.runtime_nanotime", "internal/sync.runtime_SemacquireMutex", "sync/atomic.AddInt32", "(*sync.Cond).Broadcast", "(*sync.copyChecker).check", "sync.runtime_notifyListNotifyAll", "(*internal/sync.Mutex).Unlock", "internal/race.ReleaseMerge", "(*internal/sync.Mutex).unlockSlow", "internal/sync.fatal", "internal/sync.runtime_Semrelease", "runtime.Gosched", "sync/atomic.StoreUint32", "(*sync.Cond).Wait", "sync.runtime_notifyListAdd", "internal/race.Read", "sync.runtime_notifyListWait", "internal/reflectlite.TypeOf"], unfollowed := true, recurses := true, named := ["example.com/slipring/slipring.ErrBatchSize", "example.com/slipring/slipring.ErrClosed", "example.com/slipring/slipring.ErrNotStarted", "example.com/slipring/slipring.waitPhases"], ifaces := true, apart := false, laid := [("example.com/slipring/slipring.ErrBatchSize", laid_example_com_slipring_slipring_ErrBatchSize), ("example.com/slipring/slipring.ErrNotStarted", laid_example_com_slipring_slipring_ErrNotStarted), ("example.com/slipring/slipring.ErrClosed", laid_example_com_slipring_slipring_ErrClosed), ("example.com/slipring/slipring.waitPhases", laid_example_com_slipring_slipring_waitPhases)] }
/-- NO THEOREM (fmt's text is open here; it may be false): for the released tool's asking of the row's closed facts alone. THE STATEMENT IS 'LawS6447BWholeToldSaid' (YbulkecmmFmtCards.lean). -/
def LawS6447BWholeFormAsk : Prop := lawS6447BWholeRow.holds Ybaf.pinned (OpenSpec.ofChange lawS6447BWholeSpec)

/-- ITS FALSE NEIGHBOUR: 'it returns false'. Refute it at one input. -/
def lawS6447BWholeWrong : ChangeSpec := { name := "lawS6447BWhole", vars := ["example.com/slipring/slipring.ErrBatchSize", "example.com/slipring/slipring.ErrClosed", "example.com/slipring/slipring.ErrNotStarted", "example.com/slipring/slipring.waitPhases"], fn := fun _ => fun
  | [d1, d2, d3, d4, d5, d6, d7, d8, d9, g1, g2, g3, g4] => { results := [.lit (.bool false)], args := [d1, d2, d3, d4, d5, d6, d7, d8, d9], vars := [g1, g2, g3, g4] }
  | _ => none }
def LawS6447BWholeWrongFormAsk : Prop := lawS6447BWholeRow.holds Ybaf.pinned (OpenSpec.ofChange lawS6447BWholeWrong)

/-- 'graph.LawS6447CWhole': WHATEVER THE INPUT: true; the input reads as it did. -/
def lawS6447CWholeSpec : ChangeSpec := { name := "lawS6447CWhole", vars := ["example.com/slipring/slipring/graph.ErrFrozen", "example.com/slipring/slipring/graph.ErrDuplicate"], fn := fun _ => fun
  | [d1, d2, d3, d4, d5, g1, g2] => { results := [.lit (.bool true)], args := [d1, d2, d3, d4, d5], vars := [g1, g2] }
  | _ => none }
def lawS6447CWholeRow : OpenClaim := { program := "ybulkecmmfmt", sum := "50ba99ae734e1f364deaf1b373ced90e4509a02cf06c34186f16b25ceb71f458", func := "example.com/slipring/slipring/graph.LawS6447CWhole", spec := "lawS6447CWhole", stops := ["fmt.errorf"], inPlace := ["sync/atomic.StorePointer", "(*internal/sync.Mutex).Lock", "internal/race.Disable", "sync/atomic.CompareAndSwapInt32", "internal/race.Enable", "internal/race.Acquire", "(*internal/sync.Mutex).lockSlow", "internal/sync.runtime_canSpin", "internal/sync.runtime_doSpin", "internal/sync.throw", "internal/sync.runtime_nanotime", "internal/sync.runtime_SemacquireMutex", "sync/atomic.AddInt32", "(*internal/sync.Mutex).Unlock", "internal/race.ReleaseMerge", "(*internal/sync.Mutex).unlockSlow", "internal/sync.fatal", "internal/sync.runtime_Semrelease", "sync/atomic.LoadPointer", "fmt.errorf", "internal/reflectlite.TypeOf"], unfollowed := true, recurses := true, named := ["example.com/slipring/slipring/graph.ErrFrozen", "example.com/slipring/slipring/graph.ErrDuplicate"], ifaces := true, apart := false, laid := [("example.com/slipring/slipring/graph.ErrDuplicate", laid_example_com_slipring_slipring_graph_ErrDuplicate), ("example.com/slipring/slipring/graph.ErrFrozen", laid_example_com_slipring_slipring_graph_ErrFrozen)] }
/-- NO THEOREM (fmt's text is open here; it may be false): for the released tool's asking of the row's closed facts alone. THE STATEMENT IS 'LawS6447CWholeToldSaid' (YbulkecmmFmtCards.lean). -/
def LawS6447CWholeFormAsk : Prop := lawS6447CWholeRow.holds Ybaf.pinned (OpenSpec.ofChange lawS6447CWholeSpec)

/-- ITS FALSE NEIGHBOUR: 'it returns false'. Refute it at one input. -/
def lawS6447CWholeWrong : ChangeSpec := { name := "lawS6447CWhole", vars := ["example.com/slipring/slipring/graph.ErrFrozen", "example.com/slipring/slipring/graph.ErrDuplicate"], fn := fun _ => fun
  | [d1, d2, d3, d4, d5, g1, g2] => { results := [.lit (.bool false)], args := [d1, d2, d3, d4, d5], vars := [g1, g2] }
  | _ => none }
def LawS6447CWholeWrongFormAsk : Prop := lawS6447CWholeRow.holds Ybaf.pinned (OpenSpec.ofChange lawS6447CWholeWrong)

end Rows
end Go.Proofs.YbulkecmmFmt
