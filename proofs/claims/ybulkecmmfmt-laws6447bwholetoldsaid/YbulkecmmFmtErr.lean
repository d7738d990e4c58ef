/-
  fmt.Errorf at this program's three formats, by its contracts: the closed facts are after the worked GuardFmt.lean, at this dump's numbers. fmt.errorf is a stop: its text is whatever F answers; these contracts leave the text open.
-/
import Derived.Test.YbulkecmmFmtChecked
import Derived.WalkKit
import Derived.WalkSpells
import Derived.RowKitTokens
import Derived.Stop.CallBack
import Derived.Stop.IfaceNil
import GoSem.ClaimData
set_option linter.unusedVariables false
set_option linter.unusedSimpArgs false
namespace Go.Proofs.YbulkecmmFmt
open Go.RowKit Go.Extern.Stop Go.Stop Go.Extern

theorem Ybaf.call35 (args : Array Value) (w : World) : (callFunc 35 args).run Ybaf.prog w = ((FmtStop.errorf #[9, 126] #[65] args).run Ybaf.prog w).andThen fun v w' => .ok (.value v) w' :=
  run_callFunc_extern Ybaf.func35 (by kernel_rfl) (by kernel_rfl) (by kernel_rfl) (by kernel_rfl) args w
theorem Ybaf.guard (name : String) (w : World) : (FmtStop.guard name).run Ybaf.prog w = .ok () w := by kernel_rfl
theorem Ybaf.fmt2 : FmtStop.printed? ⟨#[37, 119, 58, 32, 37, 113]⟩ 2 = some [(0, 119, false), (1, 113, false)] := by kernel_rfl
theorem Ybaf.fmt2r (w : World) : (FmtDoors.printed ⟨#[37, 119, 58, 32, 37, 113]⟩ 2).run Ybaf.prog w = .ok [(0, 119, false), (1, 113, false)] w := by kernel_rfl
theorem Ybaf.fmt3 : FmtStop.printed? ⟨#[37, 119, 58, 32, 110, 111, 100, 101, 32, 37, 113, 32, 100, 101, 112, 101, 110, 100, 115, 32, 111, 110, 32, 37, 113, 32, 116, 119, 105, 99, 101]⟩ 3 = some [(0, 119, false), (1, 113, false), (2, 113, false)] := by kernel_rfl
theorem Ybaf.fmt3r (w : World) : (FmtDoors.printed ⟨#[37, 119, 58, 32, 110, 111, 100, 101, 32, 37, 113, 32, 100, 101, 112, 101, 110, 100, 115, 32, 111, 110, 32, 37, 113, 32, 116, 119, 105, 99, 101]⟩ 3).run Ybaf.prog w = .ok [(0, 119, false), (1, 113, false), (2, 113, false)] w := by kernel_rfl
theorem Ybaf.fmtB : FmtStop.printed? ⟨#[37, 119, 58, 32, 37, 100, 32, 105, 116, 101, 109, 115, 32, 102, 111, 114, 32, 37, 100, 32, 115, 108, 111, 116, 115]⟩ 3 = some [(0, 119, false), (1, 100, false), (2, 100, false)] := by kernel_rfl
theorem Ybaf.fmtBr (w : World) : (FmtDoors.printed ⟨#[37, 119, 58, 32, 37, 100, 32, 105, 116, 101, 109, 115, 32, 102, 111, 114, 32, 37, 100, 32, 115, 108, 111, 116, 115]⟩ 3).run Ybaf.prog w = .ok [(0, 119, false), (1, 100, false), (2, 100, false)] w := by kernel_rfl

def shape9 : List UInt8 := [12, 6, 0, 0, 0, 0, 0, 0, 0, 115, 116, 114, 105, 110, 103]
theorem Ybaf.op9_113w (name : String) (x : ByteArray) (w : World) : (FmtStop.operand name true 113 false (.iface 9 (.string x))).run Ybaf.prog w = .ok (shape9, FmtStop.pack x.data.toList) w := by kernel_rfl
def shape25 : List UInt8 := FmtStop.intCode .u64 :: FmtStop.pack "uint64".toUTF8.data.toList
theorem Ybaf.op25_100w (name : String) (x : Int) (w : World) : (FmtStop.operand name true 100 false (.iface 25 (.int .u64 x))).run Ybaf.prog w = .ok (shape25, Go.Extern.Stop.digits 8 (x % 2 ^ 64).toNat) w := by kernel_rfl

theorem Ybaf.ptr142 (w : World) : (FmtStop.ptrTo "errors.errorString").run Ybaf.prog w = .ok 142 w := by kernel_rfl
theorem Ybaf.elem142 (w : World) : (elemOf 142).run Ybaf.prog w = .ok 144 w := by kernel_rfl
theorem Ybaf.isError142' (w : World) : (FmtDoors.textMethod 142 "Error").run Ybaf.prog w = .ok true w := by kernel_rfl
theorem Ybaf.ptr128 (w : World) : (FmtStop.ptrTo "fmt.wrapError").run Ybaf.prog w = .ok 128 w := by kernel_rfl
theorem Ybaf.elem128 (w : World) : (elemOf 128).run Ybaf.prog w = .ok 205 w := by kernel_rfl
theorem Ybaf.isError128' (w : World) : (FmtDoors.textMethod 128 "Error").run Ybaf.prog w = .ok true w := by kernel_rfl
def plain142 : List UInt8 := 14 :: FmtStop.pack "*errors.errorString".toUTF8.data.toList
/-- A sentinel as an operand: it reads as its type's name and its text, out of memory. -/
theorem Ybaf.opPlain142_119w (name : String) (a : Addr) (s : ByteArray) (w : World) (hc : w.cell? a = some (.string s)) :
    (FmtStop.operand name true 119 false (.iface 142 (.pointer (some a)))).run Ybaf.prog w = .ok (plain142, s.data.toList) w := by
  have h1 : (typeStr 142).run Ybaf.prog w = .ok "*errors.errorString" w := by kernel_rfl
  have d2 : Ybaf.t142.desc = .pointer 144 := rfl
  have d3 : Ybaf.t144.desc = .named "errors.errorString" 143 := rfl
  simp [FmtStop.operand, h1, d2, d3, run_load, hc, plain142]

attribute [local go_sem] Ybaf.call35 Ybaf.guard Ybaf.fmt2 Ybaf.fmt2r Ybaf.fmt3 Ybaf.fmt3r Ybaf.fmtB Ybaf.fmtBr Ybaf.op9_113w Ybaf.op25_100w Ybaf.ptr142 Ybaf.elem142 Ybaf.isError142' Ybaf.ptr128 Ybaf.elem128 Ybaf.isError128'

/-- What such a call leaves: a new *fmt.wrapError around the sentinel at a. -/
def Wrapped (a : Addr) (w : World) (e : Ending) (w' : World) : Prop :=
  ∃ text : ByteArray, e = .returned (.iface 128 (.pointer (some ⟨w.heap.size, 0, none⟩))) ∧ w' = (w.alloc (.cells #[.string text, .iface 142 (.pointer (some a))] 205)).drew

set_option maxRecDepth 100000 in
set_option maxHeartbeats 400000 in
theorem errorf2 (F : Interp) (B : Nat) (a : Addr) (s nm : ByteArray) (w : World) (hF : F.answers w.tape) (hs : w.cell? a = some (.string s))
    (c0 : w.cell? ⟨B, 0, none⟩ = some (.iface 142 (.pointer (some a)))) (c1 : w.cell? ⟨B, 1, none⟩ = some (.iface 9 (.string nm))) :
    Calls Ybaf.prog 20 #[.string ⟨#[37, 119, 58, 32, 37, 113]⟩, .slice (some ⟨B, 0, none⟩) 2 2] w (Wrapped a w) := by
  have hF' := answers_open hF
  have hop := Ybaf.opPlain142_119w "fmt.errorf" a s w hs
  go_enter Ybaf.func20, Ybaf.ntmps20
  go_wp2
  go_ret
  exact ⟨_, rfl, rfl⟩

set_option maxRecDepth 100000 in
set_option maxHeartbeats 400000 in
theorem errorf3 (F : Interp) (B : Nat) (a : Addr) (s nm dp : ByteArray) (w : World) (hF : F.answers w.tape) (hs : w.cell? a = some (.string s))
    (c0 : w.cell? ⟨B, 0, none⟩ = some (.iface 142 (.pointer (some a)))) (c1 : w.cell? ⟨B, 1, none⟩ = some (.iface 9 (.string nm))) (c2 : w.cell? ⟨B, 2, none⟩ = some (.iface 9 (.string dp))) :
    Calls Ybaf.prog 20 #[.string ⟨#[37, 119, 58, 32, 110, 111, 100, 101, 32, 37, 113, 32, 100, 101, 112, 101, 110, 100, 115, 32, 111, 110, 32, 37, 113, 32, 116, 119, 105, 99, 101]⟩, .slice (some ⟨B, 0, none⟩) 3 3] w (Wrapped a w) := by
  have hF' := answers_open hF
  have hop := Ybaf.opPlain142_119w "fmt.errorf" a s w hs
  go_enter Ybaf.func20, Ybaf.ntmps20
  go_wp2
  go_ret
  exact ⟨_, rfl, rfl⟩

set_option maxRecDepth 100000 in
set_option maxHeartbeats 400000 in
theorem errorfB (F : Interp) (B : Nat) (a : Addr) (s : ByteArray) (k c : Int) (w : World) (hF : F.answers w.tape) (hs : w.cell? a = some (.string s))
    (c0 : w.cell? ⟨B, 0, none⟩ = some (.iface 142 (.pointer (some a)))) (c1 : w.cell? ⟨B, 1, none⟩ = some (.iface 25 (.int .u64 k))) (c2 : w.cell? ⟨B, 2, none⟩ = some (.iface 25 (.int .u64 c))) :
    Calls Ybaf.prog 20 #[.string ⟨#[37, 119, 58, 32, 37, 100, 32, 105, 116, 101, 109, 115, 32, 102, 111, 114, 32, 37, 100, 32, 115, 108, 111, 116, 115]⟩, .slice (some ⟨B, 0, none⟩) 3 3] w (Wrapped a w) := by
  have hF' := answers_open hF
  have hop := Ybaf.opPlain142_119w "fmt.errorf" a s w hs
  go_enter Ybaf.func20, Ybaf.ntmps20
  go_wp2
  go_ret
  exact ⟨_, rfl, rfl⟩
end Go.Proofs.YbulkecmmFmt
