import Derived.Test.YbulkecoqMem
import Derived.Laws.Cover3
namespace Go.Proofs.Ybulkecoq
open Go.RowKit

theorem assert_err (p : Option Addr) (w : World) : (Instr.typeAssert (.iface 36 (.pointer p)) 34 36 true).run Yba.prog w = .ok (.tuple #[.pointer p, .bool true]) w := by kernel_rfl
theorem neq22 (a : Option Addr) (n c : Nat) (w : World) : (binOp .neq 22 (.slice a n c) (.slice none 0 0)).run Yba.prog w = .ok (.bool (!a.isNone)) w := run_neq_slice_nil w 22 2 a n c Yba.underlying22
theorem eql22 (a : Option Addr) (n c : Nat) (w : World) : (binOp .eql 22 (.slice a n c) (.slice none 0 0)).run Yba.prog w = .ok (.bool a.isNone) w := Lib.run_eql_slice_nil w 22 2 a n c 0 0 Yba.underlying22
theorem eql24 (a : Option Addr) (n c : Nat) (w : World) : (binOp .eql 24 (.slice a n c) (.slice none 0 0)).run Yba.prog w = .ok (.bool a.isNone) w := Lib.run_eql_slice_nil w 24 28 a n c 0 0 Yba.underlying24
attribute [local go_sem] assert_err neq22 eql22 eql24

set_option maxRecDepth 100000 in
theorem val_nil (w : World) : Calls Yba.prog 5 #[.pointer none] w fun e w' => e = .returned (.iface 36 (.pointer (some ⟨w.heap.size, 0, none⟩))) ∧
    w' = w.alloc (.cells #[.string ⟨#[]⟩, .int .i64 0, .string ⟨#[108, 105, 115, 116, 115, 32, 110, 111, 32, 116, 114, 97, 100, 105, 110, 103, 32, 100, 97, 121]⟩] 39) := by
  go_enter Yba.func5, Yba.ntmps5
  go_wp2
  go_ret
  exact ⟨rfl, rfl⟩
set_option maxRecDepth 100000 in
theorem val_empty (C c : Nat) (a : Option Addr) (w : World) (h : w.cell? ⟨C, 0, none⟩ = some (.slice a 0 c)) : Calls Yba.prog 5 #[.pointer (some ⟨C, 0, none⟩)] w fun e w' => e = .returned (.iface 36 (.pointer (some ⟨w.heap.size, 0, none⟩))) ∧
    w' = w.alloc (.cells #[.string ⟨#[]⟩, .int .i64 0, .string ⟨#[108, 105, 115, 116, 115, 32, 110, 111, 32, 116, 114, 97, 100, 105, 110, 103, 32, 100, 97, 121]⟩] 39) := by
  go_enter Yba.func5, Yba.ntmps5
  go_wp2
  go_ret
  exact ⟨rfl, rfl⟩
set_option maxRecDepth 100000 in
theorem val_some (C c n : Nat) (a : Option Addr) (w : World) (hn : 0 < n) (h : w.cell? ⟨C, 0, none⟩ = some (.slice a n c)) : Calls Yba.prog 5 #[.pointer (some ⟨C, 0, none⟩)] w fun e w' => e = .returned .nilIface ∧
    w' = w := by
  have hz : ((n : Int) == 0) = false := by simp; omega
  go_enter Yba.func5, Yba.ntmps5
  go_wp2
  go_ret
  exact ⟨rfl, rfl⟩

set_option maxRecDepth 100000 in
theorem law_long (a0 : Bool) (a1 : Option Addr) (n c : Nat) (w : World) (hn : ¬ n ≤ 1048576) :
    Calls Yba.prog 3 #[.bool a0, .slice a1 n c] w fun e w' => e = .returned (.bool true) ∧ Below w.heap.size w w' := by
  go_enter Yba.func3, Yba.ntmps3
  go_wp2
  go_ret
  exact ⟨rfl, Below.refl _ _⟩

set_option maxRecDepth 100000 in
theorem law_nil (a1 : Option Addr) (n c : Nat) (w : World) (hn : n ≤ 1048576) :
    Calls Yba.prog 3 #[.bool true, .slice a1 n c] w fun e w' => e = .returned (.bool true) ∧ Below w.heap.size w w' := by
  go_enter Yba.func3, Yba.ntmps3
  go_wp2_with fail
  refine (val_nil _).mono ?_
  rintro e w' ⟨rfl, rfl⟩
  go_wp2
  go_ret
  exact ⟨rfl, (Below.refl _ _).alloc (Nat.le_refl _) _⟩


set_option maxRecDepth 100000 in
set_option maxHeartbeats 400000 in
theorem law_none (w : World) :
    Calls Yba.prog 3 #[.bool false, .slice none 0 0] w fun e w' => e = .returned (.bool true) ∧ Below w.heap.size w w' := by
  obtain ⟨i0, hi, hz0, hz1, hz2⟩ := info_parts Yba.info28
  go_enter Yba.func3, Yba.ntmps3
  go_wp2_with (first
    | (at_make; refine wpList_make_full _ (by rfl) _ _ 24 (by rfl) (w.heap.size + 1) 28 i0 (.agg #[.int .u64 0, .int .i64 0, .pointer none]) 3 Yba.underlying24 hi hz0 hz1 .i64 .i64 _ _ 0 (by rfl) (by rfl) (by rfl) (by rfl) (by rw [hz2]; omega) (by unfold maxLen; omega) (by simp) ?_; intro w1 hown hgr; have hb1 : Below (w.heap.size + 1) (w.alloc (.cells #[.slice none 0 0] 32)) w1 := (Below.refl _ _).grown hgr (by simp) (fun k e => by cases e); have hc1 : w1.cell? ⟨w.heap.size, 0, none⟩ = some (.slice none 0 0) := (hb1.cell (by simp)).trans (by simp); clear hown hgr)
    | (refine wpList_copy_none (by rfl) _ _ (by rfl) _ _ (by rfl) (by rfl) ?_)
    | fail)
  refine (val_empty _ _ _ _ hc1).mono ?_
  rintro e w' ⟨rfl, rfl⟩
  have hs1 := hb1.size
  simp at hs1
  have hl : w.heap.size < w1.heap.size := by omega
  have hB : Hid (Below (w.heap.size + 1) (w.alloc (.cells #[.slice none 0 0] 32)) w1) := hb1
  clear hb1 hs1
  go_wp2
  go_loopw [109] (fun i wr => i = .int .i64 0 ∧ Below w.heap.size w wr) (fun _ _ => 0)
  case atStart => exact ⟨rfl, (((Below.refl _ _).alloc (Nat.le_refl _) _).trans (hB.out.mono (by omega))).alloc (by omega) _⟩
  case round =>
    obtain ⟨rfl, hb⟩ := hrel
    go_wp2
    go_ret
    exact ⟨rfl, hb⟩
end Go.Proofs.Ybulkecoq
