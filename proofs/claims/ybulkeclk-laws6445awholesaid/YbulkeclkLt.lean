import Derived.Test.YbulkeclkEdge
import Derived.Deep.QuietTactic
import Derived.BigQuiet
namespace Go.Proofs.Ybulkeclk
open Go.RowKit

set_option maxRecDepth 100000 in
set_option maxHeartbeats 400000 in
/-- The second list is the shorter: n = len(maxts). -/
theorem law_lt (b0 o0 b1 o1 l0 c0 n c1 : Nat) (s t : Nat → Int) (mv cur : Int) (w : World) (hl : l0 + n ≤ 1048576) (hp : 0 < n) (hlt : n < l0)
    (hs : ∀ j, j < l0 → w.cell? ⟨b0, o0 + j, none⟩ = some (.int .i64 (s j))) (ht : ∀ j, j < n → w.cell? ⟨b1, o1 + j, none⟩ = some (.int .i64 (t j))) :
    Calls Yba.prog 3 #[.slice (some ⟨b0, o0, none⟩) l0 c0, .slice (some ⟨b1, o1, none⟩) n c1, .int .i64 mv, .int .i64 cur] w fun e w' => e = .returned (.bool true) ∧ Below w.heap.size w w' := by
  have hB0 : b0 < w.heap.size := World.block_lt_of_cell? w _ (hs 0 (by omega))
  have hB1 : b1 < w.heap.size := World.block_lt_of_cell? w _ (ht 0 hp)
  obtain ⟨i0, hi, hz0, hz1, hz2⟩ := info_parts Yba.info26
  go_enter Yba.func3, Yba.ntmps3
  go_wp2_with (first | (at_make; refine wpList_make_full _ rfl _ _ 24 rfl w.heap.size 26 i0 (.agg #[.int .i64 0, .int .i64 0]) 2 Yba.underlying24 hi hz0 hz1 .i64 .i64 n n n rfl rfl rfl rfl (by rw [hz2]; omega) (by unfold maxLen; omega) (Nat.le_refl _) ?_; intro w1 hown hgr) | fail)
  have hth := there_of_owns hown
  have hbl : Below w.heap.size w w1 := (Below.refl _ _).grown hgr (Nat.le_refl _) (fun k e => by cases e)
  have hBs : w.heap.size < w1.heap.size := World.block_lt_of_cell? w1 ⟨w.heap.size, 0, none⟩ (Option.isSome_iff_exists.1 (by simpa using (hth 0 (by omega)).1)).choose_spec
  clear hown hgr
  go_loopw [11] (fun i wr => ∃ k : Nat, k ≤ n ∧ i = .int .i64 k ∧ Laid s t w.heap.size k wr ∧ wr.there w.heap.size 0 (n * 2) ∧ Below w.heap.size w wr ∧ w.heap.size < wr.heap.size) (fun i _ => n - (intOf i).toNat)
  case atStart => exact ⟨0, Nat.zero_le _, rfl, laid_zero _ _ _ _, hth, hbl, hBs⟩
  case round =>
    obtain ⟨k, hk, rfl, hlaid, hth2, hb, hsz⟩ := hrel
    clear hth hbl hBs
    by_cases hkn : k < n
    · have q0 : wr.cell? ⟨b0, o0 + k, none⟩ = some (.int .i64 (s k)) := (hb.cell (by exact hB0)).trans (hs k (by omega))
      have q1 : wr.cell? ⟨b1, o1 + k, none⟩ = some (.int .i64 (t k)) := (hb.cell (by exact hB1)).trans (ht k (by omega))
      obtain ⟨u0, hu0⟩ := Option.isSome_iff_exists.1 (hth2 (k * 2) (by omega)).1
      obtain ⟨u1, hu1⟩ := Option.isSome_iff_exists.1 (hth2 (k * 2 + 1) (by omega)).1
      have hf0 := (hth2 (k * 2) (by omega)).2
      have hf1 := (hth2 (k * 2 + 1) (by omega)).2
      rw [Nat.zero_add] at hu0 hu1 hf0 hf1
      have R : Hid (Laid s t w.heap.size (k + 1) ((wr.setCell ⟨w.heap.size, k * 2, none⟩ (.int .i64 (s k))).setCell ⟨w.heap.size, k * 2 + 1, none⟩ (.int .i64 (t k))) ∧
        ((wr.setCell ⟨w.heap.size, k * 2, none⟩ (.int .i64 (s k))).setCell ⟨w.heap.size, k * 2 + 1, none⟩ (.int .i64 (t k))).there w.heap.size 0 (n * 2) ∧
        Below w.heap.size w ((wr.setCell ⟨w.heap.size, k * 2, none⟩ (.int .i64 (s k))).setCell ⟨w.heap.size, k * 2 + 1, none⟩ (.int .i64 (t k)))) :=
        ⟨laid_step hlaid hth2 hkn, there_setCell (there_setCell hth2 _ _) _ _, (hb.setCell (Nat.le_refl _) _).setCell (Nat.le_refl _) _⟩
      clear hlaid hth2 hb hs ht
      go_wp2
      go_region
      all_goals go_wp2
      go_roundw
      case rel => exact ⟨k + 1, by omega, by go_num, R.out.1, R.out.2.1, R.out.2.2.drew, by simp; exact hsz⟩
      case measure => simp [intOf]; omega
    · obtain rfl : k = n := by omega
      have hwr := hb.size
      go_wp2_with (go_at_call 4; refine (head_any _).mono ?_; rintro e w2 ⟨rfl, hb2, hsz2, ⟨u4, u5, e4, e5⟩, f4, f5⟩)
      obtain ⟨wo, hwo⟩ : ∃ wo : World, wo = wr := ⟨_, rfl⟩
      subst hwo
      go_loopw [13, 14] (fun f i wv => ∃ (m : Nat) (q : Int), m ≤ k ∧ i = .int .i64 ((m : Int) - 1) ∧ f = .int .i64 q ∧ FoundIs t k mv m q ∧ Ready s t w.heap.size (wo.heap.size + 1) k mv w wv) (fun _ i _ => (intOf i + 1).toNat)
      case atStart => exact ⟨k, -1, Nat.le_refl _, rfl, rfl, found_start _ _ _, ready_mk hb hsz hlaid hwr (by omega) hb2 hsz2 e4 e5⟩
      case round =>
        clear hb hsz hlaid hth2 hb2 hsz2 e4 e5 f4 f5
        obtain ⟨m, q, hm, rfl, rfl, hfound, hready⟩ := hrel
        by_cases hm0 : 0 < m
        · obtain ⟨p, hp⟩ : ∃ p, m = p + 1 := ⟨m - 1, by omega⟩
          subst hp
          have HF : Hid (FoundIs t k mv (p + 1) q) := hfound
          have HR : Hid (Ready s t w.heap.size (wo.heap.size + 1) k mv w wr) := hready
          have q1 : wr.cell? ⟨b1, o1 + p, none⟩ = some (.int .i64 (t p)) := (hready.below.cell (by exact hB1)).trans (ht p (by omega))
          clear hfound hready hs ht
          by_cases hge : t p < mv
          · go_wp2
            go_roundw
            case rel => exact ⟨p, q, by omega, by go_num, rfl, found_miss hge HF.out, HR.out⟩
            case measure => simp [intOf]
          · go_wp2
            go_roundw
            case rel => exact ⟨p, p, by omega, by go_num, by go_num, found_hit (by omega) (by omega), HR.out⟩
            case measure => simp [intOf]
        · obtain rfl : m = 0 := by omega
          have h4 := hready.c4
          have h5 := hready.c5
          have hBr := hready.bs
          have hHr := hready.hs
          have hl0 : ∀ j, j < k → wr.cell? ⟨w.heap.size, j * 2, none⟩ = some (.int .i64 (s j)) := fun j hj => (hready.laid j hj).1
          have hl1 : ∀ j, j < k → wr.cell? ⟨w.heap.size, j * 2 + 1, none⟩ = some (.int .i64 (t j)) := fun j hj => (hready.laid j hj).2
          have HR : Hid (Ready s t w.heap.size (wo.heap.size + 1) k mv w wr) := hready
          clear hready
          rcases hfound with ⟨rfl, hf⟩ | ⟨x, rfl, _, hx, hge, hf⟩
          · have HN : Hid (∀ j, j < k → t j < mv) := fun j hj => hf j (by omega) hj
            clear hf
            go_wp2_with fail
            refine (repl_any _ _ k k s t mv cur _ (by omega) hHr hBr h4 h5 hl0 hl1).mono ?_
            rintro e w3 ⟨r, rfl, hr, hb3⟩
            have er := repl_none HN.out hr
            subst er
            clear hr
            have HR2 := HR.out.next (by have := HR.out.below.size; omega) hb3
            clear HR hb3 h4 h5 hBr hHr hl0 hl1
            have h4 := HR2.c4
            have h5 := HR2.c5
            have HR : Hid (Ready s t w.heap.size (wo.heap.size + 1) k mv w w3) := HR2
            clear HR2
            go_wp2_with fail
            go_loopw [18] (fun i wv => ∃ j : Nat, j ≤ k ∧ i = .int .i64 j ∧ Ready s t w.heap.size (wo.heap.size + 1) k mv w wv) (fun i _ => k - (intOf i).toNat)
            case atStart => exact ⟨0, Nat.zero_le _, rfl, HR.out⟩
            case round =>
              clear h4 h5 HR
              obtain ⟨j, hj, rfl, hready⟩ := hrel
              by_cases hjk : j < k
              · have hjk' : (j : Int) < (k : Int) := by omega
                have hjl' : (j : Int) < (l0 : Int) := by omega
                have h5 := hready.c5
                have g0 := (hready.laid j hjk).1
                have g1 := (hready.laid j hjk).2
                have q0 : wr.cell? ⟨b0, o0 + j, none⟩ = some (.int .i64 (s j)) := (hready.below.cell (by exact hB0)).trans (hs j (by omega))
                have q1 : wr.cell? ⟨b1, o1 + j, none⟩ = some (.int .i64 (t j)) := (hready.below.cell (by exact hB1)).trans (ht j (by omega))
                have HR : Hid (Ready s t w.heap.size (wo.heap.size + 1) k mv w wr) := hready
                clear hready hs ht
                go_wp2
                go_quiet (fail)
                go_wp2
                go_roundw
                case rel => exact ⟨j + 1, by omega, by go_num, HR.out.drewN _⟩
                case measure => simp [intOf]; omega
              · go_wp2
                go_ret
                exact ⟨rfl, hready.below⟩
          · have HN : Hid (∀ j, j < x → t j < mv) := fun j hj => hf j (by omega) hj
            clear hf
            have q0 : wr.cell? ⟨b0, o0 + x, none⟩ = some (.int .i64 (s x)) := (HR.out.below.cell (by exact hB0)).trans (hs x (by omega))
            by_cases hcx : cur < s x
            · go_wp2_with fail
              refine (repl_any _ _ k k s t mv cur _ (by omega) hHr hBr h4 h5 hl0 hl1).mono ?_
              rintro e w3 ⟨r, rfl, hr, hb3⟩
              have er := repl_some hx hge HN.out hr
              rw [Int.min_eq_left (by omega)] at er
              subst er
              clear q0
              clear hr
              have HR2 := HR.out.next (by have := HR.out.below.size; omega) hb3
              clear HR hb3 h4 h5 hBr hHr hl0 hl1
              have h4 := HR2.c4
              have h5 := HR2.c5
              have HR : Hid (Ready s t w.heap.size (wo.heap.size + 1) k mv w w3) := HR2
              clear HR2
              go_wp2_with fail
              go_loopw [18] (fun i wv => ∃ j : Nat, j ≤ k ∧ i = .int .i64 j ∧ Ready s t w.heap.size (wo.heap.size + 1) k mv w wv) (fun i _ => k - (intOf i).toNat)
              case atStart => exact ⟨0, Nat.zero_le _, rfl, HR.out⟩
              case round =>
                clear h4 h5 HR
                obtain ⟨j, hj, rfl, hready⟩ := hrel
                by_cases hjk : j < k
                · have hjk' : (j : Int) < (k : Int) := by omega
                  have hjl' : (j : Int) < (l0 : Int) := by omega
                  have h5 := hready.c5
                  have g0 := (hready.laid j hjk).1
                  have g1 := (hready.laid j hjk).2
                  have q0 : wr.cell? ⟨b0, o0 + j, none⟩ = some (.int .i64 (s j)) := (hready.below.cell (by exact hB0)).trans (hs j (by omega))
                  have q1 : wr.cell? ⟨b1, o1 + j, none⟩ = some (.int .i64 (t j)) := (hready.below.cell (by exact hB1)).trans (ht j (by omega))
                  have HR : Hid (Ready s t w.heap.size (wo.heap.size + 1) k mv w wr) := hready
                  clear hready hs ht
                  go_wp2
                  go_quiet (fail)
                  go_wp2
                  go_roundw
                  case rel => exact ⟨j + 1, by omega, by go_num, HR.out.drewN _⟩
                  case measure => simp [intOf]; omega
                · go_wp2
                  go_ret
                  exact ⟨rfl, hready.below⟩
            · go_wp2_with fail
              refine (repl_any _ _ k k s t mv cur _ (by omega) hHr hBr h4 h5 hl0 hl1).mono ?_
              rintro e w3 ⟨r, rfl, hr, hb3⟩
              have er := repl_some hx hge HN.out hr
              rw [Int.min_eq_right (by omega)] at er
              subst er
              clear q0
              clear hr
              have HR2 := HR.out.next (by have := HR.out.below.size; omega) hb3
              clear HR hb3 h4 h5 hBr hHr hl0 hl1
              have h4 := HR2.c4
              have h5 := HR2.c5
              have HR : Hid (Ready s t w.heap.size (wo.heap.size + 1) k mv w w3) := HR2
              clear HR2
              go_wp2_with fail
              go_loopw [18] (fun i wv => ∃ j : Nat, j ≤ k ∧ i = .int .i64 j ∧ Ready s t w.heap.size (wo.heap.size + 1) k mv w wv) (fun i _ => k - (intOf i).toNat)
              case atStart => exact ⟨0, Nat.zero_le _, rfl, HR.out⟩
              case round =>
                clear h4 h5 HR
                obtain ⟨j, hj, rfl, hready⟩ := hrel
                by_cases hjk : j < k
                · have hjk' : (j : Int) < (k : Int) := by omega
                  have hjl' : (j : Int) < (l0 : Int) := by omega
                  have h5 := hready.c5
                  have g0 := (hready.laid j hjk).1
                  have g1 := (hready.laid j hjk).2
                  have q0 : wr.cell? ⟨b0, o0 + j, none⟩ = some (.int .i64 (s j)) := (hready.below.cell (by exact hB0)).trans (hs j (by omega))
                  have q1 : wr.cell? ⟨b1, o1 + j, none⟩ = some (.int .i64 (t j)) := (hready.below.cell (by exact hB1)).trans (ht j (by omega))
                  have HR : Hid (Ready s t w.heap.size (wo.heap.size + 1) k mv w wr) := hready
                  clear hready hs ht
                  go_wp2
                  go_quiet (fail)
                  go_wp2
                  go_roundw
                  case rel => exact ⟨j + 1, by omega, by go_num, HR.out.drewN _⟩
                  case measure => simp [intOf]; omega
                · go_wp2
                  go_ret
                  exact ⟨rfl, hready.below⟩
end Go.Proofs.Ybulkeclk
