import Derived.Test.YbulkeclkParts
namespace Go.Proofs.Ybulkeclk
open Go.RowKit

theorem Yba.info26 : (Yba.prog.info? 26).map (fun i => (i.zero, i.size, i.bytes)) = some (some (.agg #[.int .i64 0, .int .i64 0]), 2, 16) := by kernel_rfl

set_option maxRecDepth 100000 in
/-- The lists are too long: true at once. -/
theorem law_long (a0 a1 : Option Addr) (l0 c0 l1 c1 : Nat) (mv cur : Int) (w : World) (h0 : l0 * 8 ≤ 140737488351232) (h1 : l1 * 8 ≤ 140737488351232) (hl : 1048576 < l0 + l1) :
    Calls Yba.prog 3 #[.slice a0 l0 c0, .slice a1 l1 c1, .int .i64 mv, .int .i64 cur] w fun e w' => e = .returned (.bool true) ∧ Below w.heap.size w w' := by
  go_enter Yba.func3, Yba.ntmps3
  go_wp2
  go_ret
  exact ⟨rfl, Below.refl _ _⟩

set_option maxRecDepth 100000 in
set_option maxHeartbeats 400000 in
/-- One of the lists is empty. -/
theorem law_zero (a0 a1 : Option Addr) (l0 c0 l1 c1 : Nat) (mv cur : Int) (w : World) (hl : l0 + l1 ≤ 1048576) (hz : l0 = 0 ∨ l1 = 0) :
    Calls Yba.prog 3 #[.slice a0 l0 c0, .slice a1 l1 c1, .int .i64 mv, .int .i64 cur] w fun e w' => e = .returned (.bool true) ∧ Below w.heap.size w w' := by
  obtain ⟨i0, hi, hz0, hz1, hz2⟩ := info_parts Yba.info26
  have hcases : (0 < l0 ∧ l1 = 0) ∨ l0 = 0 := by omega
  clear hz
  rcases hcases with ⟨hp, rfl⟩ | rfl
  all_goals
    go_enter Yba.func3, Yba.ntmps3
    go_wp2_with (first | (at_make; refine wpList_make_full _ rfl _ _ 24 rfl w.heap.size 26 i0 (.agg #[.int .i64 0, .int .i64 0]) 2 Yba.underlying24 hi hz0 hz1 .i64 .i64 0 0 0 rfl rfl rfl rfl (by rw [hz2]; omega) (by unfold maxLen; omega) (Nat.le_refl _) ?_; intro w1 hown hgr) | fail)
    have hbl : Below w.heap.size w w1 := (Below.refl _ _).grown hgr (Nat.le_refl _) (fun k e => by cases e)
    have hBs : w.heap.size < w1.heap.size := by
      rcases hown.2 with ⟨h', _⟩ | ⟨g', cap', cur, h', _, hg, _, _, _, htake⟩
      · simp at h'
      · simp only [Value.slice.injEq, Option.some.injEq, Addr.mk.injEq, and_true, true_and] at h'
        obtain ⟨rfl, rfl⟩ := h'
        exact (Array.getElem?_eq_some_iff.1 hg).1
    clear hown hgr hi hz0 hz1 hz2
    refine wp_loop_rounds 1 ?_; rw [rounds_succ]
    go_wp2_with (go_at_call 4; refine (head_any _).mono ?_; rintro e w2 ⟨rfl, hb2, hsz2, ⟨u4, u5, e4, e5⟩, f4, f5⟩)
    have HR : Ready (fun _ => 0) (fun _ => 0) w.heap.size (w1.heap.size + 1) 0 mv w _ := ready_mk (u4 := u4) (u5 := u5) hbl hBs (laid_zero _ _ _ _) hbl.size (by omega) hb2 hsz2 e4 e5
    refine wp_loop_rounds 1 ?_; rw [rounds_succ]
    go_wp2_with fail
    refine (repl_any _ _ 0 0 (fun _ => 0) (fun _ => 0) mv cur _ (by omega) HR.hs HR.bs HR.c4 HR.c5 (fun j hj => absurd hj (by omega)) (fun j hj => absurd hj (by omega))).mono ?_
    rintro e w3 ⟨r, rfl, hr, hb3⟩
    have er := repl_none (fun j hj => absurd hj (by omega)) hr
    subst er
    have HR2 := HR.next (by have := HR.below.size; omega) hb3
    clear HR hb3 hr e4 e5 f4 f5 hb2 hsz2
    have h4 := HR2.c4
    have h5 := HR2.c5
    have HR : Hid (Ready (fun _ => 0) (fun _ => 0) w.heap.size (w1.heap.size + 1) 0 mv w w3) := HR2
    clear HR2
    go_wp2_with fail
    refine wp_loop_rounds 1 ?_; rw [rounds_succ]
    go_wp2
    go_ret
    exact ⟨rfl, HR.out.below⟩
end Go.Proofs.Ybulkeclk
