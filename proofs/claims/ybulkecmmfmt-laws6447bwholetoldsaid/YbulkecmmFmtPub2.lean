/-
  PublishBatch, whole: by one contract.
-/
import Derived.Test.YbulkecmmFmtPub
import Derived.Test.YbulkecmmFmtErr
set_option linter.unusedVariables false
set_option linter.unusedSimpArgs false
namespace Go.Proofs.YbulkecmmFmt
open Go.RowKit Go.Extern.Stop Go.Stop Go.Extern

set_option maxRecDepth 100000 in
set_option maxHeartbeats 2000000 in
theorem pb_fail {B R S c : Nat} {pb : Option Nat} {gt : Option (Nat × Nat)} {x nx lm sh : Nat} {s : Nat → Int} {p : Nat → Nat} {g : Nat} {wz w0 w : World} (h : Rg B R S c pb gt x nx lm sh s p g wz w0 w) (va : Option Addr) (k vcap : Nat) (ev : Addr)
    (hc : isCap c) (hnx : nx < 2 ^ 32) (hlm : lm < 2 ^ 63) (hk1 : 1 ≤ k) (hkc : k ≤ c) (hA : ¬ nx + k ≤ lm)
    (hcl : ∀ w1, Rg B R S c pb gt x nx lm sh s p g wz w0 w1 → Calls Ybaf.prog 24 #[.pointer (some ⟨R, 0, none⟩), .int .u64 (k : Nat), .bool true] w1 fun e w' => e = .returned (.tuple #[.int .u64 0, .bool false, .iface 142 (.pointer (some ev))]) ∧ w' = w1) :
    Calls Ybaf.prog 7 #[.pointer (some ⟨R, 0, none⟩), .slice va k vcap] w fun e w' => e = .returned (.iface 142 (.pointer (some ev))) ∧ Rg B R S c pb gt x nx lm sh s p g wz w0 w' := by
  have hcl128 := hc.le
  have c2 := h.c2
  have c391 := h.c391
  have c392 := h.c392
  have hk0 : ((k : Int) == 0) = false := by simp; omega
  have hkc' : decide ((c : Int) < (k : Int)) = false := by simp; omega
  have hkc2 : decide (c < k) = false := by simp; omega
  have dA : decide ((nx : Int) + (k : Int) ≤ (lm : Int)) = false := by simp; omega
  have hw1 : IntKind.u64.wrap ((nx : Int) + (k : Int)) = (nx : Int) + (k : Int) := by rw [IntKind.wrap_u64]; omega
  have HR : Hid (Rg B R S c pb gt x nx lm sh s p g wz w0 w.drew) := h.next (Below.refl _ _).drew
  have HCL : Hid (Calls Ybaf.prog 24 #[.pointer (some ⟨R, 0, none⟩), .int .u64 (k : Nat), .bool true] w.drew fun e w' => e = .returned (.tuple #[.int .u64 0, .bool false, .iface 142 (.pointer (some ev))]) ∧ w' = w.drew) := hcl _ HR.out
  clear h hcl
  go_enter Ybaf.func7, Ybaf.ntmps7
  go_wp2_with fail
  go_region
  go_wp2_with (go_at_call 24; refine HCL.out.mono ?_; rintro e w' ⟨rfl, rfl⟩)
  go_ret
  exact ⟨rfl, HR.out⟩

set_option maxRecDepth 100000 in
theorem pb_zero (R : Nat) (va : Option Addr) (vcap : Nat) (w : World) :
    Calls Ybaf.prog 7 #[.pointer (some ⟨R, 0, none⟩), .slice va 0 vcap] w fun e w' => e = .returned .nilIface ∧ w' = w := by
  go_enter Ybaf.func7, Ybaf.ntmps7
  go_wp2
  go_ret
  exact ⟨rfl, rfl⟩

set_option maxRecDepth 100000 in
set_option maxHeartbeats 2000000 in
theorem pb_big (F : Interp) (R c k vcap : Nat) (va : Option Addr) (aB : Addr) (sB : ByteArray) (w : World) (hF : F.answers w.tape) (c2 : w.cell? ⟨R, 2, none⟩ = some (.int .u64 (c : Nat))) (hc : isCap c) (hk : k ≤ 1048576) (hck : c < k)
    (g0 : w.cell? ⟨0, 0, none⟩ = some (.iface 142 (.pointer (some aB)))) (hs : w.cell? aB = some (.string sB)) :
    Calls Ybaf.prog 7 #[.pointer (some ⟨R, 0, none⟩), .slice va k vcap] w fun e w' => ∃ b, e = .returned (.iface 128 (.pointer (some ⟨b, 0, none⟩))) ∧ w'.cell? ⟨b, 1, none⟩ = some (.iface 142 (.pointer (some aB))) ∧ Below w.heap.size w w' := by
  have hk0 : ((k : Int) == 0) = false := by simp; omega
  have hkc' : decide ((c : Int) < (k : Int)) = true := by simp; omega
  have hkc2 : decide (c < k) = true := by simp; omega
  have hbs := World.block_lt_of_cell? w _ hs
  have HF : Hid (F.answers w.tape) := hF
  have HS : Hid (w.cell? aB = some (.string sB) ∧ aB.block < w.heap.size) := ⟨hs, hbs⟩
  clear hF hs hbs
  go_enter Ybaf.func7, Ybaf.ntmps7
  go_wp2_with fail
  go_region_with (go_at_call 20; refine (errorfB F w.heap.size aB sB k c _ (by exact HF.out) (by rw [World.cell?_drew, World.cell?_alloc_lt _ _ _ (by exact HS.out.2)]; exact HS.out.1) (by simp) (by simp) (by simp)).mono ?_; rintro e w' ⟨text, rfl, rfl⟩)
  all_goals
    go_wp2
    go_ret
    refine ⟨_, rfl, ?_, ?_⟩
    · simp
    · exact ((((Below.refl _ _).alloc (Nat.le_refl _) _).drew).alloc (by simp) _).drew
end Go.Proofs.YbulkecmmFmt
