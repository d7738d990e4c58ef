import Derived.Test.YbulkeclyRow
namespace Go.Proofs.Ybulkecly
open Go.RowKit

/-- The slot k steps on from s, wrapping round at n. -/
def adv (n s k : Nat) : Nat := if s + k < n then s + k else s + k - n
theorem adv_zero {n s : Nat} (hs : s < n) : adv n s 0 = s := by simp [adv, hs]
theorem adv_lt {n s k : Nat} (hs : s < n) (hk : k < n) : adv n s k < n := by unfold adv; split <;> omega
theorem adv_succ {n s k : Nat} (hs : s < n) (hk : k + 1 < n) : (if adv n s k + 1 = n then 0 else adv n s k + 1) = adv n s (k + 1) := by
  unfold adv; split <;> split <;> split <;> omega

attribute [local go_sem ↓] exec_load29 wp_store29
attribute [local go_sem] load29_at store29_at rowAt_drew freeAt_drew

theorem rangeAt_whole {w : World} {b : Nat} {cs : List Value} {t : TypeId} {fr : Nat × Nat} (hb : w.heap[b]? = some (.cells cs.toArray t fr)) : w.rangeAt b 0 cs := fun j v hv => by
  rw [Nat.zero_add, cell_of_row w b j cs.toArray t fr hb]
  simpa using hv

set_option maxRecDepth 100000 in
set_option maxHeartbeats 400000 in
theorem place_any (T B n c s0 kv : Nat) (h used : Int) (st : Nat → Int) (cs : List Value) (w : World) (h0 : 0 ≤ h) (h1 : h ≤ 18446744073709551615) (hn : n ≤ 65537)
    (hs0 : (s0 : Int) = h / 4294967296 * n / 4294967296) (hsn : s0 < n) (hkv : kv < n)
    (hlow : ∀ k, k < kv → (st (adv n s0 k) != -9223372036854775808) = true) (hat : (st (adv n s0 kv) != -9223372036854775808) = false)
    (hl : cs.length = 18) (hcs : ∀ v ∈ cs, v.oneCell' = true)
    (hT : w.cell? ⟨T, 0, none⟩ = some (.slice (some ⟨B, 0, none⟩) n c)) (hU : w.cell? ⟨T, 1, none⟩ = some (.int .i64 used)) (hUf : w.frozen? ⟨T, 1, none⟩ = false)
    (hst : ∀ j, j < n → w.cell? ⟨B, j * 18 + 17, none⟩ = some (.int .i64 (st j))) (hth : w.there B 0 (n * 18)) (hne : T ≠ B) :
    Calls Yba.prog 4 #[.pointer (some ⟨T, 0, none⟩), .int .u64 h, .agg cs.toArray] w fun e w' => e = .returned (.tuple #[]) ∧
      ∃ q, w' = (((w.alloc (.cells cs.toArray 29)).setCells B (adv n s0 kv * 18) cs).setCell ⟨T, 1, none⟩ (.int .i64 (wrap64 (used + 1)))).drewN q := by
  have hTl : T < w.heap.size := World.block_lt_of_cell? w _ hT
  have hBl : B < w.heap.size := World.block_lt_of_cell? w _ (hst 0 (by omega))
  obtain ⟨S, hS⟩ : ∃ S, S = w.heap.size := ⟨_, rfl⟩
  obtain ⟨W1, hW1⟩ : ∃ W1, W1 = w.alloc (.cells cs.toArray 29) := ⟨_, rfl⟩
  have hT1 : W1.cell? ⟨T, 0, none⟩ = some (.slice (some ⟨B, 0, none⟩) n c) := by rw [hW1, World.cell?_alloc_lt _ _ _ hTl]; exact hT
  have hU1 : W1.cell? ⟨T, 1, none⟩ = some (.int .i64 used) := by rw [hW1, World.cell?_alloc_lt _ _ _ hTl]; exact hU
  have hUf1 : W1.frozen? ⟨T, 1, none⟩ = false := by rw [hW1, World.frozen?_alloc_past _ _ _ hTl]; exact hUf
  have hst1 : ∀ j, j < n → W1.cell? ⟨B, j * 18 + 17, none⟩ = some (.int .i64 (st j)) := fun j hj => by rw [hW1, World.cell?_alloc_lt _ _ _ hBl]; exact hst j hj
  have hth1 : W1.there B 0 (n * 18) := by rw [hW1]; exact World.there_alloc hth _
  have hr1 : W1.rangeAt S 0 cs := by
    have hb : W1.heap[S]? = some (.cells cs.toArray 29 (0, 0)) := by rw [hW1, hS]; exact heap_alloc_new _ _
    exact rangeAt_whole hb
  have HW : Hid (W1 = w.alloc (.cells cs.toArray 29)) := hW1
  have HS : Hid (S = w.heap.size) := hS
  go_enter Yba.func4, Yba.ntmps4
  go_wp2_with fail
  rw [← hW1, ← hS]
  clear hW1 hS hT hU hUf hst hth
  refine (start_any _ _ n c h _ h0 h1 hn hT1).mono ?_
  rintro e w' ⟨rfl, rfl⟩
  rw [← hs0]
  clear hs0
  go_wp2_with fail
  go_loopg [6] kv (fun g i wr => ∃ k, k + g = kv ∧ i = .int .i64 (adv n s0 k) ∧ wr = w')
  case atStart => exact ⟨0, by omega, by rw [adv_zero hsn], rfl⟩
  case round =>
    obtain ⟨k, hk, rfl, rfl⟩ := hrel
    have hak := adv_lt hsn (show k < n by omega)
    have c17 := hst1 _ hak
    by_cases hkk : k < kv
    · have hd := hlow k hkk
      have hnx := adv_succ hsn (show k + 1 < n by omega)
      have HN : Hid ((if adv n s0 k + 1 = n then 0 else adv n s0 k + 1) = adv n s0 (k + 1)) := hnx
      clear hnx hlow hst1
      go_wp2_with fail
      refine (next_any _ _ n c _ _ hak hn hT1).mono ?_
      rintro e w'' ⟨rfl, rfl⟩
      rw [HN.out]
      go_wp2
      go_roundg (gk - 1)
      case measure => omega
      case rel => exact ⟨k + 1, by omega, rfl, rfl⟩
    · obtain rfl : k = kv := by omega
      go_wp2
      have hi0 : (0 : Int) ≤ (adv n s0 k : Int) := Int.natCast_nonneg _
      have hi1 : (adv n s0 k : Int) < (n : Int) := by omega
      have hok := okRow_of hl hcs
      have hSB : S ≠ B := by have := HS.out; omega
      have hth2 : wr.there B (adv n s0 k * 18) 18 := fun j hj => by have := hth1 (adv n s0 k * 18 + j) (by omega); rwa [Nat.zero_add] at this
      clear hst1 hth1 c17 hlow hat
      have hfr := freeAt_of hth2
      have hrow := rowAt_of hr1 hl
      clear hr1 hth2 hcs
      have hU2 : (wr.drew.setCells B (adv n s0 k * 18) cs).cell? ⟨T, 1, none⟩ = some (.int .i64 used) := by rw [World.cell?_setCells_out _ _ _ _ _ (fun hb => absurd hb hne)]; exact hU1
      have hUf2 : (wr.drew.setCells B (adv n s0 k * 18) cs).frozen? ⟨T, 1, none⟩ = false := by rw [World.frozen?_setCells]; exact hUf1
      go_region
      go_wp2
      go_end0
      exact ⟨rfl, 1, by rw [← HW.out, setCells_drew]; rfl⟩
end Go.Proofs.Ybulkecly
