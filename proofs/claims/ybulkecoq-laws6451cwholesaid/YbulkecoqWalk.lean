import Derived.Test.YbulkecoqVal
namespace Go.Proofs.Ybulkecoq
open Go.RowKit

/-- A time more is laid. -/
theorem lay_step {R : Nat → List Value} {k n B X : Nat} {W wr : World} {xs : List Value} (hR : ∀ i, IsTm (R i)) (hx : IsTm xs) (hrows : wr.rangeAt B 0 (rowsL R k)) (hth : wr.there B 0 (n * 3)) (hk : k < n)
    (hb : Below X W wr) (hs : B < wr.heap.size) (hXB : X ≤ B) :
    ∃ S : Nat → List Value, (∀ i, IsTm (S i)) ∧ (wr.setCells B (k * 3) xs).rangeAt B 0 (rowsL S (k + 1)) ∧ (wr.setCells B (k * 3) xs).there B 0 (n * 3) ∧ Below X W (wr.setCells B (k * 3) xs) ∧ B < (wr.setCells B (k * 3) xs).heap.size := by
  have ht : wr.there B (k * 3) 3 := fun j hj => by have := hth (k * 3 + j) (by omega); rwa [Nat.zero_add] at this
  have htu := Turned.setCells B xs (k * 3) wr wr (Turned.refl _ _)
  refine ⟨fun i => if i = k then xs else R i, fun i => by dsimp only; split; exact hx; exact hR i, ?_, World.there_setCells hth _ _ _, hb.trans (htu.below hXB), by rw [htu.size]; exact hs⟩
  rw [rowsL, rowsL_congr (S := R) (fun i hi => if_neg (by omega)), rangeAt_append, length_rowsL hR, Nat.zero_add, if_pos rfl]
  exact ⟨World.rangeAt_setCells_apart hrows _ _ _ (.inr (.inl (by rw [length_rowsL hR]; omega))), World.rangeAt_setCells_same _ _ _ _ (by rw [hx.length]; exact ht)⟩

/-- What stands behind 'copy': B the days, C the calendar, D the copy. -/
structure Stood (R : Nat → List Value) (B C D n : Nat) (W w : World) : Prop where
  below : Below W.heap.size W w
  bl : B < w.heap.size
  cl : C < w.heap.size
  dl : D < w.heap.size
  c0 : w.cell? ⟨C, 0, none⟩ = some (.slice (some ⟨B, 0, none⟩) n n)
  now : ∀ j, j < n → w.rangeAt B (j * 3) (R j)
  old : ∀ j, j < n → w.rangeAt D (j * 3) (R j)
theorem Stood.next {R : Nat → List Value} {B C D n : Nat} {W w w' : World} (h : Stood R B C D n W w) (hb : Below w.heap.size w w') : Stood R B C D n W w' :=
  ⟨h.below.trans (hb.mono h.below.size), Nat.lt_of_lt_of_le h.bl hb.size, Nat.lt_of_lt_of_le h.cl hb.size, Nat.lt_of_lt_of_le h.dl hb.size, (hb.cell (by exact h.cl)).trans h.c0,
    fun j hj => rangeAt_below (h.now j hj) hb h.bl, fun j hj => rangeAt_below (h.old j hj) hb h.dl⟩

theorem stood_mk {R : Nat → List Value} {B k : Nat} {W wo w2 w3 : World} (hR : ∀ i, IsTm (R i)) (hb2 : Below W.heap.size W wo) (hs2 : B < wo.heap.size) (hs3 : wo.heap.size + 1 < w2.heap.size)
    (hb3 : Below (wo.heap.size + 1) (wo.alloc (.cells #[.slice (some ⟨B, 0, none⟩) k k] 32)) w2) (hsrc : w2.rangeAt B 0 (rowsL R k)) (htu : Turned (wo.heap.size + 1) w2 w3) (hcp : w3.rangeAt (wo.heap.size + 1) 0 (rowsL R k)) :
    Stood R B wo.heap.size (wo.heap.size + 1) k W w3 := by
  have hz := htu.size
  have hw := hb2.size
  have hbo : Below wo.heap.size wo w2 := ((Below.refl wo.heap.size wo).alloc (Nat.le_refl _) _).trans (hb3.mono (by omega))
  refine ⟨hb2.trans ((hbo.mono hw).trans (htu.below (by omega))), by omega, by omega, by omega, ?_, fun j hj => row_of_rowsL hR (htu.range (by omega) hsrc) j hj, fun j hj => row_of_rowsL hR hcp j hj⟩
  rw [htu.cell (by show wo.heap.size ≠ wo.heap.size + 1; omega), hb3.cell (by show wo.heap.size < wo.heap.size + 1; omega)]
  simp

attribute [local go_sem ↓] exec_neq28
attribute [local go_sem] neq28_self assert_err neq22 eql22 eql24

set_option maxRecDepth 100000 in
set_option maxHeartbeats 1000000 in
theorem law_some (x : Addr) (n c : Nat) (f : Nat → Int) (w : World) (hn : n ≤ 1048576) (hf : ∀ i, i < n → -9223372036854775808 ≤ f i ∧ f i ≤ 9223372036854775807)
    (hcell : ∀ i, i < n → w.cell? (x.add i) = some (.int .i64 (f i))) :
    Calls Yba.prog 3 #[.bool false, .slice (some x) n c] w fun e w' => e = .returned (.bool true) ∧ Below w.heap.size w w' := by
  obtain ⟨i0, hi, hz0, hz1, hz2⟩ := info_parts Yba.info28
  go_enter Yba.func3, Yba.ntmps3
  go_wp2_with (first
    | (at_make; refine wpList_make_full _ (by rfl) _ _ 24 (by rfl) w.heap.size 28 i0 (.agg #[.int .u64 0, .int .i64 0, .pointer none]) 3 Yba.underlying24 hi hz0 hz1 .i64 .i64 _ _ n (by rfl) (by rfl) (by rfl) (by rfl) (by rw [hz2]; omega) (by unfold maxLen; omega) (by simp) ?_; intro w1 hown hgr)
    | fail)
  have hth : w1.there w.heap.size 0 (n * 3) := there_of_owns hown
  have hb1 : Below w.heap.size w w1 := (Below.refl _ _).grown hgr (by simp) (fun k e => by cases e)
  have hs1 : w.heap.size < w1.heap.size := lt_of_owns hown
  clear hown hgr
  go_loopw [27] (fun i wr => ∃ (k : Nat) (R : Nat → List Value), k ≤ n ∧ i = .int .i64 k ∧ (∀ i, IsTm (R i)) ∧ wr.rangeAt w.heap.size 0 (rowsL R k) ∧ wr.there w.heap.size 0 (n * 3) ∧ Below w.heap.size w wr ∧ w.heap.size < wr.heap.size) (fun i _ => n - (intOf i).toNat)
  case atStart => exact ⟨0, fun _ => [.int .u64 0, .int .i64 0, .pointer none], Nat.zero_le _, rfl, fun _ => ⟨_, _, rfl⟩, fun j v hv => by simp [rowsL] at hv, hth, hb1, hs1⟩
  case round =>
    obtain ⟨k, R, hk, rfl, hR, hrows, hth2, hb2, hs2⟩ := hrel
    clear hth hb1 hs1
    by_cases hkn : k < n
    · have q0 : wr.cell? (x.add k) = some (.int .i64 (f k)) := (hb2.cell (by have := World.block_lt_of_cell? w _ (hcell k hkn); exact this)).trans (hcell k hkn)
      obtain ⟨f0, f1⟩ := hf k hkn
      clear hcell hf
      have HR : Hid (∀ i, IsTm (R i)) := hR
      have Hrows : Hid (wr.rangeAt w.heap.size 0 (rowsL R k)) := hrows
      have Hth : Hid (wr.there w.heap.size 0 (n * 3)) := hth2
      have Hb : Hid (Below w.heap.size w wr) := hb2
      clear hR hrows hth2 hb2
      go_wp2_with fail
      refine (add_any (f k) _ f0 f1).mono ?_
      rintro e w' ⟨⟨a, b, rfl⟩, hb'⟩
      have hsz := hb'.size
      have ht' : w'.there w.heap.size 0 (n * 3) := there_below Hth.out hb' hs2
      have Ht3 : Hid (w'.there w.heap.size (k * 3) 3) := fun j hj => by have := ht' (k * 3 + j) (by omega); rwa [Nat.zero_add] at this
      have HS : Hid (∃ S : Nat → List Value, (∀ i, IsTm (S i)) ∧ (w'.setCells w.heap.size (k * 3) [.int .u64 a, .int .i64 b, .pointer none]).rangeAt w.heap.size 0 (rowsL S (k + 1)) ∧ (w'.setCells w.heap.size (k * 3) [.int .u64 a, .int .i64 b, .pointer none]).there w.heap.size 0 (n * 3) ∧ Below w.heap.size w (w'.setCells w.heap.size (k * 3) [.int .u64 a, .int .i64 b, .pointer none]) ∧ w.heap.size < (w'.setCells w.heap.size (k * 3) [.int .u64 a, .int .i64 b, .pointer none]).heap.size) :=
        lay_step HR.out ⟨a, b, rfl⟩ (rangeAt_below Hrows.out hb' hs2) ht' hkn (Hb.out.trans (hb'.mono Hb.out.size)) (by omega) (Nat.le_refl _)
      clear hb' ht' hsz q0
      go_wp2_with (first
        | (refine wpList_store_turned (by rfl) _ _ (by rfl) w.heap.size (k * 3) [.int .u64 a, .int .i64 b, .pointer none] (by rfl) (by rfl) ⟨a, b, rfl⟩ Ht3.out ?_)
        | fail)
      go_roundw
      case rel =>
        obtain ⟨S, h1, h2, h3, h4, h5⟩ := HS.out
        exact ⟨k + 1, S, by omega, by go_num, h1, h2, h3, h4, h5⟩
      case measure => simp [intOf]; omega
    · obtain rfl : k = n := by omega
      obtain ⟨wo, hwo⟩ : ∃ wo : World, wo = wr := ⟨_, rfl⟩
      subst hwo
      clear hcell hf
      have hrl := length_rowsL hR k
      go_wp2_with (first
        | (at_make; refine wpList_make_full _ (by rfl) _ _ 24 (by rfl) (wo.heap.size + 1) 28 i0 (.agg #[.int .u64 0, .int .i64 0, .pointer none]) 3 Yba.underlying24 hi hz0 hz1 .i64 .i64 _ _ k (by rfl) (by rfl) (by rfl) (by rfl) (by rw [hz2]; omega) (by unfold maxLen; omega) (by simp) ?_; intro w2 hown hgr; have hth3 : w2.there (wo.heap.size + 1) 0 (k * 3) := (by simpa using there_of_owns hown); have hs3 : wo.heap.size + 1 < w2.heap.size := (by simpa using lt_of_owns hown); have hb3 : Below (wo.heap.size + 1) (wo.alloc (.cells #[.slice (some ⟨w.heap.size, 0, none⟩) k k] 32)) w2 := (Below.refl _ _).grown hgr (by simp) (fun k e => by cases e); have hsrc : w2.rangeAt w.heap.size 0 (rowsL R k) := rangeAt_below (World.rangeAt_alloc hrows _) hb3 (by omega); clear hown hgr)
        | (refine wpList_copy_rows (by rfl) _ _ (by rfl) (wo.heap.size + 1) w.heap.size k _ _ (by rfl) (by rfl) (rowsL R k) hrl hsrc hth3 (rowsL_oneCell hR _) ?_; intro w3 htu hcp)
        | fail)
      have HSt := stood_mk hR hb2 hs2 hs3 hb3 hsrc htu hcp
      clear hb2 hs3 hb3 hsrc htu hcp hth2 hth3 hrl hrows hs2
      have hc0 := HSt.c0
      by_cases hk0 : k = 0
      · subst hk0
        refine (val_empty _ _ _ _ hc0).mono ?_
        rintro e w' ⟨rfl, rfl⟩
        have hcl := HSt.cl
        have HH : Hid (Stood R w.heap.size wo.heap.size (wo.heap.size + 1) 0 w (w3.alloc (.cells #[.string ⟨#[]⟩, .int .i64 0, .string ⟨#[108, 105, 115, 116, 115, 32, 110, 111, 32, 116, 114, 97, 100, 105, 110, 103, 32, 100, 97, 121]⟩] 39))) := HSt.next ((Below.refl _ _).alloc (Nat.le_refl _) _)
        clear HSt
        go_wp2
        go_loopw [109] (fun i wr => i = .int .i64 0 ∧ Below w.heap.size w wr) (fun _ _ => 0)
        case atStart => exact ⟨rfl, HH.out.below⟩
        case round =>
          obtain ⟨rfl, hb⟩ := hrel
          go_wp2
          go_ret
          exact ⟨rfl, hb⟩
      · have hkp : 0 < k := by omega
        have hz0 : ((k : Int) == 0) = false := by simp; omega
        refine (val_some _ _ k _ _ hkp hc0).mono ?_
        rintro e w' ⟨rfl, rfl⟩
        have HH : Hid (Stood R w.heap.size wo.heap.size (wo.heap.size + 1) k w w') := HSt
        have HR : Hid (∀ i, IsTm (R i)) := hR
        clear HSt hR
        go_wp2
        clear hc0
        go_loopw [109] (fun i wr => ∃ j : Nat, j ≤ k ∧ i = .int .i64 j ∧ Stood R w.heap.size wo.heap.size (wo.heap.size + 1) k w wr) (fun i _ => k - (intOf i).toNat)
        case atStart => exact ⟨0, Nat.zero_le _, rfl, HH.out⟩
        case round =>
          clear HH
          obtain ⟨j, hj, rfl, HS⟩ := hrel
          by_cases hjk : j < k
          · obtain ⟨a, b, hab⟩ := HR.out j
            have hc0 := HS.c0
            have d0 : wr.cell? ⟨w.heap.size, j * 3, none⟩ = some (.int .u64 a) := HS.now j hjk 0 _ (by rw [hab]; rfl)
            have d1 : wr.cell? ⟨w.heap.size, j * 3 + 1, none⟩ = some (.int .i64 b) := HS.now j hjk 1 _ (by rw [hab]; rfl)
            have d2 : wr.cell? ⟨w.heap.size, j * 3 + 2, none⟩ = some (.pointer none) := HS.now j hjk 2 _ (by rw [hab]; rfl)
            have e0 : wr.cell? ⟨wo.heap.size + 1, j * 3, none⟩ = some (.int .u64 a) := HS.old j hjk 0 _ (by rw [hab]; rfl)
            have e1 : wr.cell? ⟨wo.heap.size + 1, j * 3 + 1, none⟩ = some (.int .i64 b) := HS.old j hjk 1 _ (by rw [hab]; rfl)
            have e2 : wr.cell? ⟨wo.heap.size + 1, j * 3 + 2, none⟩ = some (.pointer none) := HS.old j hjk 2 _ (by rw [hab]; rfl)
            have HH : Hid (Stood R w.heap.size wo.heap.size (wo.heap.size + 1) k w wr) := HS
            clear HS hab
            go_wp2
            go_region
            go_wp2
            go_roundw
            case rel => exact ⟨j + 1, by omega, by go_num, HH.out.next (Below.refl _ _).drew⟩
            case measure => simp [intOf]; omega
          · go_wp2
            go_ret
            exact ⟨rfl, HS.below⟩
end Go.Proofs.Ybulkecoq
