/-
  commit by many producers; what is written into the slots.
-/
import Derived.Test.YbulkecmmFmtCm
import Derived.Laws.CopyRow
import Derived.Laws.CopyOwn
set_option linter.unusedVariables false
set_option linter.unusedSimpArgs false
namespace Go.Proofs.YbulkecmmFmt
open Go.RowKit

section
variable {B R S c : Nat} {pb : Option Nat} {gt : Option (Nat × Nat)} {x nx lm sh : Nat} {s s' : Nat → Int} {p p' : Nat → Nat} {g : Nat} {wz w0 w w' : World}
theorem Rg.congrP (h : Rg B R S c pb gt x nx lm sh s p g wz w0 w) (e : ∀ i, i < c → p i = p' i) : Rg B R S c pb gt x nx lm sh s p' g wz w0 w :=
  ⟨h.below, h.zs, h.kept, h.lR, h.lS, h.ring, h.slots, fun Pb hp => ⟨(h.pub Pb hp).1, (h.pub Pb hp).2.congr fun i hi => by rw [e i hi]⟩, h.gat⟩
theorem Rg.congrS (h : Rg B R S c pb gt x nx lm sh s p g wz w0 w) (e : ∀ i, i < c → s i = s' i) : Rg B R S c pb gt x nx lm sh s' p g wz w0 w :=
  ⟨h.below, h.zs, h.kept, h.lR, h.lS, h.ring, h.slots.congr (fun i hi => by rw [e i hi]), h.pub, h.gat⟩
end

/-- The marks of the items n+j .. n+k-1. -/
def mk (p : Nat → Nat) (n k c j i : Nat) : Nat := if j ≤ plc c n i ∧ plc c n i < k then n + plc c n i + 1 else p i
theorem mk_start (p : Nat → Nat) (n k c : Nat) : mk p n k c k = p := by
  funext i; unfold mk; rw [if_neg (by omega)]
theorem mk_step {p : Nat → Nat} {n k c j : Nat} (hc : isCap c) (hj : j < k) (hk : k ≤ c) {i : Nat} (hi : i < c) : (if i = (n + j) % c then n + j + 1 else mk p n k c (j + 1) i) = mk p n k c j i := by
  have h1 := plc_iff (n := n) hc (show j < c by omega) hi
  by_cases e : i = (n + j) % c
  · rw [if_pos e]
    have := h1.2 e
    unfold mk
    rw [if_pos (by omega)]; omega
  · rw [if_neg e]
    have : plc c n i ≠ j := fun h => e (h1.1 h)
    unfold mk
    by_cases h2 : j + 1 ≤ plc c n i ∧ plc c n i < k
    · rw [if_pos h2, if_pos (by omega)]
    · rw [if_neg h2, if_neg (by omega)]

set_option maxRecDepth 100000 in
set_option maxHeartbeats 1000000 in
theorem commit_multi {B R S c Pb : Nat} {gt : Option (Nat × Nat)} {n nx lm sh : Nat} {s : Nat → Int} {p : Nat → Nat} {g : Nat} {wz w0 w : World} (k : Nat) (h : Rg B R S c (some Pb) gt (n + k) nx lm sh s p g wz w0 w) (hc : isCap c) (hn : n < 2 ^ 32) (hk : k ≤ c) :
    Calls Ybaf.prog 25 #[.pointer (some ⟨R, 0, none⟩), .int .u64 (n : Nat), .int .u64 (k : Nat)] w fun e w' => e = .returned .nilIface ∧ Rg B R S c (some Pb) gt (n + k) nx lm sh s (mk p n k c 0) g wz w0 w' := by
  have hcl := hc.le
  have hcp := hc.pos
  have c3 := h.c3
  simp only [pubV] at c3
  have hne := fun w => run_neq_slice_nil_any (P := Ybaf.prog) w 27 36 (some ⟨Pb, 0, none⟩) c c 0 0 Ybaf.underlying27
  have hcnt : bits .and .u64 ((n : Int) + (k : Int)) 4611686018427387903 = (n : Int) + (k : Int) := bits_count0 (n := n + k) (by omega)
  have HR : Hid (Rg B R S c (some Pb) gt (n + k) nx lm sh s (mk p n k c k) g wz w0 w) := (by rw [mk_start]; exact h : Rg B R S c (some Pb) gt (n + k) nx lm sh s (mk p n k c k) g wz w0 w)
  clear h
  go_enter Ybaf.func25, Ybaf.ntmps25
  go_wp2_with fail
  go_loopw [7] (fun sv wr => ∃ j : Nat, j ≤ k ∧ sv = .int .u64 ((n + j : Nat) : Int) ∧ Rg B R S c (some Pb) gt (n + k) nx lm sh s (mk p n k c j) g wz w0 wr) (fun sv _ => (intOf sv).toNat)
  case atStart => exact ⟨k, Nat.le_refl _, rfl, HR.out⟩
  case round =>
    clear HR c3
    obtain ⟨j, hj, rfl, h⟩ := hrel
    have HRH : Hid (Rg B R S c (some Pb) gt (n + k) nx lm sh s (mk p n k c j) g wz w0 wr) := h
    have c3 := h.c3
    simp only [pubV] at c3
    have c1 := h.c1
    cases j with
    | zero =>
      have c135 := h.c135
      have c136 := h.c136
      clear h
      go_wp2_with (first | (go_at_call 23; refine (wake_none R 7 _ c136).mono ?_; rintro e w' ⟨rfl, rfl⟩) | (go_at_call 9; refine (load_u64 R 135 _ _ c135).mono ?_; rintro e w' ⟨rfl, rfl⟩))
      go_ret
      exact ⟨rfl, HRH.out⟩
    | succ j =>
      have hm : bits .and .u64 ((n : Int) + (j : Int)) ((c - 1 : Nat) : Int) = (((n + j) % c : Nat) : Int) := hc.mask (n := n + j) (by omega)
      have hm1 : bits .and .u64 ((n : Int) + ((j : Int) + 1) - 1) ((c - 1 : Nat) : Int) = (((n + j) % c : Nat) : Int) := by rw [show (n : Int) + ((j : Int) + 1) - 1 = (n : Int) + (j : Int) by omega]; exact hm
      have hw1 : IntKind.u64.wrap ((n : Int) + ((j : Int) + 1) - 1) = (n : Int) + ((j : Int) + 1) - 1 := by rw [IntKind.wrap_u64]; omega
      have hlt : (n + j) % c < c := Nat.mod_lt _ hcp
      obtain ⟨_, hrow⟩ := h.pub Pb rfl
      have HN : Hid (Rg B R S c (some Pb) gt (n + k) nx lm sh s (mk p n k c j) g wz w0 (wr.drew.setCell ⟨Pb, (n + j) % c, none⟩ (.int .u64 ((n + j + 1 : Nat) : Int)))) := ((h.next (Below.refl _ _).drew).setP ((n + j) % c) (n + j + 1)).congrP fun i hi => mk_step hc (by omega) hk hi
      have cP := hrow.cell hlt
      have zP := hrow.frozen ((n + j) % c)
      clear h hrow
      obtain ⟨i0, hi0⟩ : ∃ i0, i0 = (n + j) % c := ⟨_, rfl⟩
      rw [← hi0] at hm1 hlt HN cP zP
      clear hm
      clear hi0
      have hlt' : (i0 : Int) < (c : Int) := by omega
      have cPd : wr.drew.cell? ⟨Pb, i0, none⟩ = some (.int .u64 (mk p n k c (j + 1) i0 : Nat)) := cP
      have zPd : wr.drew.frozen? ⟨Pb, i0, none⟩ = false := zP
      clear cP zP
      go_wp2_with fail
      go_region_with (go_at_call 5; refine (store_u64 Pb i0 _ _ _ cPd zPd).mono ?_; rintro e w' ⟨rfl, rfl⟩)
      all_goals
        go_wp2
        go_roundw
        case rel => exact ⟨j, by omega, by go_num, HN.out⟩
        case measure => simp [intOf]; omega
end Go.Proofs.YbulkecmmFmt
