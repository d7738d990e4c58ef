import Derived.Test.YbulkeclyAfter
import Derived.BigQuiet
import Derived.Deep.QuietTactic
namespace Go.Proofs.Ybulkecly
open Go.RowKit

theorem Yba.info29 : (Yba.prog.info? 29).map (fun i => (i.zero, i.size, i.bytes)) = some (some (.agg (slotL 0 zk 0).toArray), 18, 32) := by kernel_rfl

theorem Yba.size26 : (Yba.prog.info? 26).map (·.size) = some 16 := by kernel_rfl
/-- Is slot i laid full? -/
def occ (f : Nat → Bool) (m i : Nat) : Bool := decide (i < m) && f i
/-- The stamp of a vacant slot. -/
def vac : Int := -9223372036854775808
/-- Slot i as the law lays it. -/
def lay (f : Nat → Bool) (m i : Nat) : List Value := if occ f m i then slotL ((i : Int) + 1) (fk ((i : Int) % 256) ((i : Int) / 256)) i else slotL (-(i : Int) - 1) zk vac
def stp (f : Nat → Bool) (m i : Nat) : Int := if occ f m i then i else vac

/-- What a row of the call's own gives: its cells are there, and may be written. -/
theorem there_of_owns {w : World} {base e sz g n cap : Nat} {xs : List Value} (h : w.ownsRow base e sz (.slice (some ⟨g, 0, none⟩) n cap) n xs) : w.there g 0 (n * sz) := fun j hj => by
  rw [Nat.zero_add]
  refine ⟨?_, h.frozenAt j⟩
  rw [h.cellAt j hj, List.getElem?_eq_getElem (by rw [h.1]; exact hj)]; rfl

/-- One slot more is laid. -/
theorem lay_step {f : Nat → Bool} {m k B X : Nat} {W wr : World} {xs : List Value} (hrows : wr.rangeAt B 0 (rowsL (lay f m) k)) (hth : wr.there B 0 ((m + 1) * 18)) (hk : k < m + 1) (hX : lay f m k = xs) (hl : xs.length = 18)
    (_h1 : ∀ v ∈ xs, v.oneCell' = true) (hb : Below X W wr) (hs : B < wr.heap.size) (hXB : X ≤ B) (hR : ∀ i, (lay f m i).length = 18) :
    wr.there B (k * 18) xs.toArray.size ∧ (Yba.prog.info? 29).map (·.size) = some xs.toArray.size ∧
      Hid ((wr.setCells B (k * 18) xs).rangeAt B 0 (rowsL (lay f m) (k + 1)) ∧ (wr.setCells B (k * 18) xs).there B 0 ((m + 1) * 18) ∧ Below X W (wr.setCells B (k * 18) xs) ∧ B < (wr.setCells B (k * 18) xs).heap.size) := by
  have ht : wr.there B (k * 18) 18 := fun j hj => by have := hth (k * 18 + j) (by omega); rwa [Nat.zero_add] at this
  refine ⟨by simpa [hl] using ht, by rw [Yba.size29]; simp [hl], ?_, World.there_setCells hth _ _ _, below_setCells _ hXB _ _ _ _ hb, by rw [size_setCells]; exact hs⟩
  rw [rowsL, rangeAt_append, length_rowsL hR, Nat.zero_add, hX]
  exact ⟨World.rangeAt_setCells_apart hrows _ _ _ (.inr (.inl (by rw [length_rowsL hR]; omega))), World.rangeAt_setCells_same _ _ _ _ (by rw [hl]; exact ht)⟩
theorem length_lay (f : Nat → Bool) (m i : Nat) : (lay f m i).length = 18 := by unfold lay; split <;> exact length_slotL rfl
theorem lay_oneCell (f : Nat → Bool) (m i : Nat) : ∀ v ∈ lay f m i, v.oneCell' = true := by unfold lay; split <;> exact slotL_oneCell _ _ _
theorem lay_stamp (f : Nat → Bool) (m i : Nat) : (lay f m i)[17]? = some (.int .i64 (stp f m i)) := by unfold lay stp; split <;> exact slotL_stamp rfl
theorem lay_slot (f : Nat → Bool) (m i : Nat) : IsSlot (lay f m i).toArray := by unfold lay; split <;> exact ⟨_, _, _, rfl, rfl⟩

/-- Behind the second 'make'. -/
theorem made_next {w w' : World} {e n cap B : Nat} {xs ys : List Value} (h : w'.ownsRow w.heap.size e 18 (.slice (some ⟨w.heap.size, 0, none⟩) (n + 1) cap) (n + 1) xs) (hg : w.grownBy w' Option.none) (hr : w.rangeAt B 0 ys) (hB : B < w.heap.size) :
    w'.there w.heap.size 0 ((n + 1) * 18) ∧ Below w.heap.size w w' ∧ w.heap.size < w'.heap.size ∧ w'.rangeAt B 0 ys := by
  have ht := there_of_owns h
  have hb : Below w.heap.size w w' := (Below.refl _ _).grown hg (Nat.le_refl _) (fun k e => by cases e)
  exact ⟨ht, hb, World.block_lt_of_cell? w' ⟨w.heap.size, 0, Option.none⟩ (Option.isSome_iff_exists.1 (by simpa using (ht 0 (by omega)).1)).choose_spec, rangeAt_below hr hb hB⟩

theorem key_next {w w2 w3 : World} {B K : Nat} {xs : List Value} {T : Obj} (hr : w.rangeAt K 0 xs) (hb : Below w.heap.size w w2) (ht : Turned B w2 w3) (hK : K < w.heap.size ∧ K ≠ B) : Nonempty ((w3.alloc T).rangeAt K 0 xs) :=
  ⟨World.rangeAt_alloc (ht.range hK.2 (rangeAt_below hr hb hK.1)) T⟩

/-- Where the way of h begins. -/
theorem start_at (h : Int) (m : Nat) (h0 : 0 ≤ h) (h1 : h ≤ 18446744073709551615) (hm : m ≤ 65536) : ∃ s0 : Nat, (s0 : Int) = h / 4294967296 * ((m + 1 : Nat) : Int) / 4294967296 ∧ s0 < m + 1 := by
  obtain ⟨a, _, b⟩ := start_bd h (m + 1) h0 h1 (by omega)
  have b' := b (by omega)
  refine ⟨(h / 4294967296 * ((m + 1 : Nat) : Int) / 4294967296).toNat, by omega, by omega⟩

theorem stp_last (f : Nat → Bool) (m : Nat) : stp f m m = vac := by simp [stp, occ]
/-- The first vacant slot on the way. -/
theorem least_vac (f : Nat → Bool) (m s0 : Nat) (hs : s0 < m + 1) : ∃ kv, kv < m + 1 ∧ (∀ k, k < kv → (stp f m (adv (m + 1) s0 k) != -9223372036854775808) = true) ∧ (stp f m (adv (m + 1) s0 kv) != -9223372036854775808) = false := by
  have hex : ∃ k, stp f m (adv (m + 1) s0 k) = vac := ⟨m - s0, by rw [show adv (m + 1) s0 (m - s0) = m by unfold adv; split <;> omega]; exact stp_last f m⟩
  obtain ⟨k, hk, hl⟩ := exists_least hex
  have hle : k ≤ m - s0 := hl _ (by rw [show adv (m + 1) s0 (m - s0) = m by unfold adv; split <;> omega]; exact stp_last f m)
  refine ⟨k, by omega, fun j hj => ?_, ?_⟩
  · have hne : stp f m (adv (m + 1) s0 j) ≠ -9223372036854775808 := fun e => by have := hl j e; omega
    simpa using hne
  · have : stp f m (adv (m + 1) s0 k) = -9223372036854775808 := hk
    simpa using this

attribute [local go_sem ↓] exec_load29 wp_store29 exec_neq29
attribute [local go_sem] load29_at store29_at rowAt_drew freeAt_drew neq29_self

set_option maxRecDepth 100000 in
set_option maxHeartbeats 1000000 in
theorem law_main (a3 : Option Addr) (m c : Nat) (f : Nat → Bool) (h used depth entry sstamp : Int) (ks : List Int) (w : World) (hk16 : ks.length = 16) (h0 : 0 ≤ h) (h1 : h ≤ 18446744073709551615) (hm : m ≤ 65536)
    (hfull : ∀ i, i < m → ∃ b o, a3 = some ⟨b, o, none⟩ ∧ b < w.heap.size ∧ w.cell? ⟨b, o + i, none⟩ = some (.bool (f i))) :
    Calls Yba.prog 3 #[.int .u64 h, .int .i64 used, .int .u64 depth, .slice a3 m c, .int .i64 entry, .agg (keyL ks).toArray, .int .i64 sstamp] w fun e w' => e = .returned (.bool true) ∧ Below w.heap.size w w' := by
  obtain ⟨i0, hi, hz0, hz1, hz2⟩ := info_parts Yba.info29
  have hsz26 : (Yba.prog.info? 26).map (·.size) = some (keyL ks).length := by rw [Yba.size26]; simp [keyL, hk16]
  go_enter Yba.func3, Yba.ntmps3
  go_wp2_with (first | (at_make; refine wpList_make_full _ rfl _ _ 27 rfl (w.heap.size + 1) 29 i0 (.agg (slotL 0 zk 0).toArray) 18 Yba.underlying27 hi hz0 hz1 .i64 .i64 _ _ (m + 1) rfl rfl (by omega) (by omega) (by rw [hz2]; omega) (by unfold maxLen; omega) (by simp) ?_; intro w1 hown hgr) | fail)
  have hsz0 : (w.alloc (.cells (keyL ks).toArray 26)).heap.size = w.heap.size + 1 := by simp
  rw [hsz0] at hown
  clear hsz0
  have hth : w1.there (w.heap.size + 1) 0 ((m + 1) * 18) := there_of_owns hown
  have hb1 : Below (w.heap.size + 1) (w.alloc (.cells (keyL ks).toArray 26)) w1 := (Below.refl _ _).grown hgr (by simp) (fun k e => by cases e)
  have hs1 : w.heap.size + 1 < w1.heap.size := World.block_lt_of_cell? w1 ⟨w.heap.size + 1, 0, none⟩ (Option.isSome_iff_exists.1 (by simpa using (hth 0 (by omega)).1)).choose_spec
  clear hown hgr
  go_loopw [17] (fun i wr => ∃ k : Nat, k ≤ m + 1 ∧ i = .int .i64 k ∧ wr.rangeAt (w.heap.size + 1) 0 (rowsL (lay f m) k) ∧ wr.there (w.heap.size + 1) 0 ((m + 1) * 18) ∧ Below (w.heap.size + 1) (w.alloc (.cells (keyL ks).toArray 26)) wr ∧ w.heap.size + 1 < wr.heap.size) (fun i _ => m + 1 - (intOf i).toNat)
  case atStart => exact ⟨0, Nat.zero_le _, rfl, fun j v hv => by simp [rowsL] at hv, hth, hb1, hs1⟩
  case round =>
    obtain ⟨k, hk, rfl, hrows, hth2, hb2, hs2⟩ := hrel
    clear hth hb1 hs1
    by_cases hkm : k < m + 1
    · by_cases ho : k < m
      · obtain ⟨b, o, rfl, hbl, hc⟩ := hfull k ho
        have q0 : wr.cell? ⟨b, o + k, none⟩ = some (.bool (f k)) := by
          have e1 : wr.cell? ⟨b, o + k, none⟩ = (w.alloc (.cells (keyL ks).toArray 26)).cell? ⟨b, o + k, none⟩ := hb2.cell (by show b < w.heap.size + 1; omega)
          rw [e1, World.cell?_alloc_lt _ _ _ hbl]; exact hc
        cases hf : f k with
        | true =>
          rw [hf] at q0
          have hX : lay f m k = slotL ((k : Int) + 1) (fk ((k : Int) % 256) ((k : Int) / 256)) k := by simp [lay, occ, ho, hf]
          have R := lay_step hrows hth2 hkm hX (length_slotL rfl) (slotL_oneCell _ _ _) hb2 hs2 (Nat.le_refl _) (length_lay f m)
          obtain ⟨R1, R2, HR⟩ := R
          clear hrows hth2 hb2 hX
          go_wp2_with (first | (refine wpList_build2 (by rfl) 26 0 1 _ _ (by rfl) _ _ (by rfl) (by rfl) _ (run_build26 _ _ _) ?_) | (refine wpList_build3 (by rfl) 29 0 1 2 _ _ _ (by rfl) _ _ _ (by rfl) (by rfl) (by rfl) _ (run_build29 _ _ _ (by rfl) _) ?_) | (refine wpList_store_mid (by rfl) 29 _ _ (by rfl) (w.heap.size + 1) (k * 18) _ (by rfl) (by rfl) ?hha ?hhb ?hhc ?_; rotate_right))
          case hha => exact R1
          case hhb => exact R2
          case hhc => exact all_oneCell_toArray (slotL_oneCell _ _ _)
          go_roundw
          case rel => exact ⟨k + 1, by omega, by go_num, HR.out.1, HR.out.2.1, HR.out.2.2.1, HR.out.2.2.2⟩
          case measure => simp [intOf]; omega
        | false =>
          rw [hf] at q0
          have hX : lay f m k = slotL (-(k : Int) - 1) zk vac := by simp [lay, occ, hf]
          obtain ⟨R1, R2, HR⟩ := lay_step hrows hth2 hkm hX (length_slotL rfl) (slotL_oneCell _ _ _) hb2 hs2 (Nat.le_refl _) (length_lay f m)
          clear hrows hth2 hb2 hX
          go_wp2_with (first | (refine wpList_build2 (by rfl) 29 0 2 _ _ (by rfl) _ _ (by rfl) (by rfl) _ (run_build29v _ _ _) ?_) | (refine wpList_store_mid (by rfl) 29 _ _ (by rfl) (w.heap.size + 1) (k * 18) _ (by rfl) (by rfl) ?hha ?hhb ?hhc ?_; rotate_right))
          case hha => exact R1
          case hhb => exact R2
          case hhc => exact all_oneCell_toArray (slotL_oneCell _ _ _)
          go_roundw
          case rel => exact ⟨k + 1, by omega, by go_num, HR.out.1, HR.out.2.1, HR.out.2.2.1, HR.out.2.2.2⟩
          case measure => simp [intOf]; omega
      · have hX : lay f m k = slotL (-(k : Int) - 1) zk vac := by simp [lay, occ, ho]
        obtain ⟨R1, R2, HR⟩ := lay_step hrows hth2 hkm hX (length_slotL rfl) (slotL_oneCell _ _ _) hb2 hs2 (Nat.le_refl _) (length_lay f m)
        clear hrows hth2 hb2 hX hfull
        go_wp2_with (first | (refine wpList_build2 (by rfl) 29 0 2 _ _ (by rfl) _ _ (by rfl) (by rfl) _ (run_build29v _ _ _) ?_) | (refine wpList_store_mid (by rfl) 29 _ _ (by rfl) (w.heap.size + 1) (k * 18) _ (by rfl) (by rfl) ?hha ?hhb ?hhc ?_; rotate_right))
        case hha => exact R1
        case hhb => exact R2
        case hhc => exact all_oneCell_toArray (slotL_oneCell _ _ _)
        go_roundw
        case rel => exact ⟨k + 1, by omega, by go_num, HR.out.1, HR.out.2.1, HR.out.2.2.1, HR.out.2.2.2⟩
        case measure => simp [intOf]; omega
    · obtain rfl : k = m + 1 := by omega
      obtain ⟨wo, hwo⟩ : ∃ wo : World, wo = wr := ⟨_, rfl⟩
      subst hwo
      clear hfull
      have hrl := length_rowsL (length_lay f m) (m + 1)
      have hkey : wo.rangeAt w.heap.size 0 (keyL ks) := by
        have hh : (w.alloc (.cells (keyL ks).toArray 26)).heap[w.heap.size]? = some (.cells (keyL ks).toArray 26 (0, 0)) := heap_alloc_new _ _
        exact rangeAt_below (rangeAt_whole hh) hb2 (by omega)
      go_wp2_with (first
        | (at_make; refine wpList_make_full _ (by rfl) _ _ 27 (by rfl) wo.heap.size 29 i0 (.agg (slotL 0 zk 0).toArray) 18 Yba.underlying27 hi hz0 hz1 .i64 .i64 _ _ (m + 1) (by rfl) (by rfl) (by omega) (by omega) (by rw [hz2]; omega) (by unfold maxLen; omega) (Nat.le_refl _) ?_; intro w2 hown hgr; obtain ⟨hth3, hb3, hs3, hsrc⟩ := made_next hown hgr hrows hs2; clear hown hgr)
        | (refine wpList_copy_turned (by rfl) _ _ (by rfl) wo.heap.size (w.heap.size + 1) (m + 1) _ _ (by rfl) (by rfl) (rowsL (lay f m) (m + 1)) hrl hsrc hth3 (rowsL_oneCell (lay_oneCell f m) _) ?_; intro w3 htu hcp; obtain ⟨hkey4⟩ := key_next (T := .cells #[.slice (some ⟨w.heap.size + 1, 0, none⟩) (m + 1) (m + 1), .int .i64 used, .int .u64 depth] 32) hkey hb3 htu (by omega))
        | (refine wpList_load_mid (by rfl) 26 _ (by rfl) w.heap.size 0 (by rfl) (keyL ks) _ hkey4 Yba.underlying26 rfl hsz26 ?_)
        | (refine wpList_build3 (by rfl) 29 0 1 2 _ _ _ (by rfl) _ _ _ (by rfl) (by rfl) (by rfl) _ (run_build29 _ _ _ hk16 _) ?_)
        | (refine wpList_store_turned (by rfl) _ _ (by rfl) (w3.heap.size + 1) (slotL entry ks sstamp) (by rfl) (by rfl) (length_slotL hk16) (slotL_oneCell _ _ _) ?hnew ?_; rotate_right; intro w4 htu4 hS4 hT4; have hrow4 := rowAt_of hS4 (length_slotL hk16))
        | fail)
      case hnew => exact there_new' _ _ _ _ _ (by simp) (by rfl)
      have HB := before_mk (used := used) (depth := depth) hb2 hs2 hth2 hb3 hs3 hsrc htu hcp htu4 hS4
      have hne1 : w3.heap.size ≠ w.heap.size + 1 := by have := htu.size; omega
      have hne2 : w3.heap.size ≠ wo.heap.size := by have := htu.size; omega
      have hne3 : w3.heap.size + 1 ≠ w.heap.size + 1 := by have := htu.size; omega
      have hge : w.heap.size ≤ w3.heap.size := by have := htu.size; omega
      clear hb2 hth2 hb3 hs3 hsrc htu hcp htu4 hS4 hT4 hrow4 hkey hkey4 hth3 hrl hrows
      obtain ⟨s0, hs0, hsn⟩ := start_at h m h0 h1 hm
      obtain ⟨kv, hkv, hlow, hat⟩ := least_vac f m s0 hsn
      refine (place_any w3.heap.size (w.heap.size + 1) (m + 1) (m + 1) s0 kv h used (stp f m) (slotL entry ks sstamp) w4 h0 h1 (by omega) hs0 hsn hkv hlow hat (length_slotL hk16) (slotL_oneCell _ _ _) HB.t0 HB.t1 HB.f1 ?hst HB.th hne1).mono ?_
      case hst => exact fun j hj => (row_of_rowsL (length_lay f m) HB.now j hj) 17 _ (lay_stamp f m j)
      rintro e w5 ⟨rfl, q, hw5⟩
      have HA := after_place (q := q) (R := lay f m) (tg := adv (m + 1) s0 kv) (length_lay f m) (length_slotL hk16) (adv_lt hsn hkv) HB.below HB.tl HB.bsl HB.bbl HB.sl hge (by omega) hne1 hne2 (by omega) (by omega) hne3 HB.t0 HB.t1 HB.t2 HB.old HB.now HB.th HB.s
      rw [← hw5] at HA
      clear hw5 HB
      have hst5 : ∀ j, j < m + 1 → w5.cell? ⟨wo.heap.size, j * 18 + 17, none⟩ = some (.int .i64 (stp f m j)) := fun j hj => (HA.old j hj) 17 _ (lay_stamp f m j)
      have ht0 := HA.t0
      have ht1 := HA.t1
      have ht2 := HA.t2
      have hs0' : h / 4294967296 * ((m : Int) + 1) / 4294967296 = (s0 : Int) := by rw [hs0]; push_cast; rfl
      obtain ⟨hp0, hp1, _⟩ := start_bd h (m + 1) h0 h1 (by omega)
      have hp0' : 0 ≤ h / 4294967296 * ((m : Int) + 1) := by simpa using hp0
      have hp1' : h / 4294967296 * ((m : Int) + 1) ≤ 281483566645248 := by simpa using hp1
      have HAH : Hid (After (lay f m) (slotL entry ks sstamp) w3.heap.size (w.heap.size + 1) wo.heap.size (w3.heap.size + 1) (m + 1) (adv (m + 1) s0 kv) (wrap64 (used + 1)) depth w w5) := HA
      clear HA hp0 hp1 hs0 hne1 hne2 hne3 hge hs2
      go_wp2_with fail
      clear hs0' hp0' hp1'
      go_loop [22, 23] (fun tg i => ∃ k : Nat, k ≤ kv ∧ tg = .int .i64 (-1) ∧ i = .int .i64 k) (fun _ i => m + 1 - (intOf i).toNat)
      case atStart => exact ⟨0, Nat.zero_le _, rfl, rfl⟩
      case round =>
        obtain ⟨k, hk, rfl, rfl⟩ := hrel
        have hal := adv_lt hsn (show k < m + 1 by omega)
        have hc := hst5 _ hal
        have hal' : (adv (m + 1) s0 k : Int) < (m : Int) + 1 := by omega
        by_cases hkv' : k < kv
        · have hd : (stp f m (adv (m + 1) s0 k) == -9223372036854775808) = false := by have := hlow k hkv'; simpa using this
          clear hst5 hlow hat
          by_cases hA : s0 + k < m + 1
          · have hadv : (s0 : Int) + (k : Int) = (adv (m + 1) s0 k : Int) := by simp [adv, hA]
            go_wp2
            go_round
            case rel => exact ⟨k + 1, by omega, rfl, by go_num⟩
            case measure => simp [intOf]; omega
          · have hadv : (s0 : Int) + (k : Int) - ((m : Int) + 1) = (adv (m + 1) s0 k : Int) := by simp [adv, hA]; omega
            go_wp2
            go_round
            case rel => exact ⟨k + 1, by omega, rfl, by go_num⟩
            case measure => simp [intOf]; omega
        · obtain rfl : k = kv := by omega
          have hd : (stp f m (adv (m + 1) s0 k) == -9223372036854775808) = true := by have := hat; simpa using this
          clear hst5 hlow hat
          by_cases hA : s0 + k < m + 1
          · have hadv : (s0 : Int) + (k : Int) = (adv (m + 1) s0 k : Int) := by simp [adv, hA]
            go_wp2_with fail
            clear hadv hd hc hal' hk hkv' hA
            go_loopw [25] (fun i wv => ∃ j : Nat, j ≤ m + 1 ∧ i = .int .i64 j ∧ After (lay f m) (slotL entry ks sstamp) w3.heap.size (w.heap.size + 1) wo.heap.size (w3.heap.size + 1) (m + 1) (adv (m + 1) s0 k) (wrap64 (used + 1)) depth w wv) (fun i _ => m + 1 - (intOf i).toNat)
            case atStart => exact ⟨0, Nat.zero_le _, rfl, HAH.out⟩
            case round =>
              clear ht0 ht1 ht2 HAH
              obtain ⟨j, hj, rfl, HA⟩ := hrel
              by_cases hjm : j < m + 1
              · have hjm' : (j : Int) < (m : Int) + 1 := by omega
                have hold := HA.old j hjm
                have HAH : Hid (After (lay f m) (slotL entry ks sstamp) w3.heap.size (w.heap.size + 1) wo.heap.size (w3.heap.size + 1) (m + 1) (adv (m + 1) s0 k) (wrap64 (used + 1)) depth w wr) := HA
                clear HA
                by_cases hjt : j = adv (m + 1) s0 k
                · have hjt' : ((j : Int) == (adv (m + 1) s0 k : Int)) = true := by simp; omega
                  have HJ : Hid (j = adv (m + 1) s0 k) := hjt
                  clear hjt
                  go_wp2_with (first
                    | (refine wpList_load_mid (by rfl) 29 _ (by rfl) _ _ (by rfl) (lay f m j) _ hold Yba.underlying29 rfl (by rw [Yba.size29, length_lay]) ?_)
                    | (refine wpList_store_turned (by rfl) _ _ (by rfl) wr.heap.size (lay f m j) (by rfl) (by rfl) (length_lay f m j) (lay_oneCell f m j) ?hnew ?_; rotate_right; intro w6 htu6 hV6 hT6; have HA6 := HAH.out.next (((Below.refl _ _).alloc (Nat.le_refl _) _).trans (htu6.below (Nat.le_refl _))); have hs6 := HA6.s; have HA6H : Hid (After (lay f m) (slotL entry ks sstamp) w3.heap.size (w.heap.size + 1) wo.heap.size (w3.heap.size + 1) (m + 1) (adv (m + 1) s0 k) (wrap64 (used + 1)) depth w w6) := HA6; clear HA6 hold)
                    | (refine wpList_load_mid (by rfl) 29 _ (by rfl) _ _ (by rfl) (slotL entry ks sstamp) _ hs6 Yba.underlying29 rfl (by rw [Yba.size29, length_slotL hk16]) ?_)
                    | (refine wpList_store_turned (by rfl) _ _ (by rfl) wr.heap.size (slotL entry ks sstamp) (by rfl) (by rfl) (length_slotL hk16) (slotL_oneCell _ _ _) hT6 ?_; intro w7 htu7 hV7 hT7)
                    | fail)
                  case hnew => exact there_new' _ _ _ _ _ (by simp) (by rfl)
                  have HA7 := HAH.out.next ((((Below.refl _ _).alloc (Nat.le_refl _) _).trans (htu6.below (Nat.le_refl _))).trans (htu7.below (Nat.le_refl _)))
                  have g0 := HA7.t0
                  have r1 := rowAt_of (n := 18) (HA7.now j hjm) (by rw [if_pos HJ.out]; exact length_slotL hk16)
                  rw [if_pos HJ.out] at r1
                  have r2 := rowAt_of (n := 18) hV7 (length_slotL hk16)
                  have hsl : IsSlot (slotL entry ks sstamp).toArray := ⟨_, _, _, hk16, rfl⟩
                  have HA7H : Hid (After (lay f m) (slotL entry ks sstamp) w3.heap.size (w.heap.size + 1) wo.heap.size (w3.heap.size + 1) (m + 1) (adv (m + 1) s0 k) (wrap64 (used + 1)) depth w w7) := HA7
                  clear HA7 HA6H HAH hT6 hV6 htu6 hs6 htu7 hV7 hT7
                  simp only [Act.put, List.setIfInBounds_toArray, List.set_cons_zero, List.set_cons_succ]
                  go_region
                  go_wp2
                  go_roundw
                  case rel => exact ⟨j + 1, by omega, by go_num, HA7H.out.next (Below.refl _ _).drew⟩
                  case measure => simp [intOf]; omega
                · have hjt' : ((j : Int) == (adv (m + 1) s0 k : Int)) = false := by simp; omega
                  go_wp2_with (first
                    | (refine wpList_load_mid (by rfl) 29 _ (by rfl) _ _ (by rfl) (lay f m j) _ hold Yba.underlying29 rfl (by rw [Yba.size29, length_lay]) ?_)
                    | (refine wpList_store_turned (by rfl) _ _ (by rfl) wr.heap.size (lay f m j) (by rfl) (by rfl) (length_lay f m j) (lay_oneCell f m j) ?hnew ?_; rotate_right; intro w6 htu6 hV6 hT6)
                    | fail)
                  case hnew => exact there_new' _ _ _ _ _ (by simp) (by rfl)
                  have HA6 := HAH.out.next (((Below.refl _ _).alloc (Nat.le_refl _) _).trans (htu6.below (Nat.le_refl _)))
                  have g0 := HA6.t0
                  have r1 := rowAt_of (n := 18) (HA6.now j hjm) (by rw [if_neg hjt]; exact length_lay f m j)
                  rw [if_neg hjt] at r1
                  have r2 := rowAt_of (n := 18) hV6 (length_lay f m j)
                  have hsl := lay_slot f m j
                  have HA6H : Hid (After (lay f m) (slotL entry ks sstamp) w3.heap.size (w.heap.size + 1) wo.heap.size (w3.heap.size + 1) (m + 1) (adv (m + 1) s0 k) (wrap64 (used + 1)) depth w w6) := HA6
                  clear HA6 HAH hold hT6 hV6 htu6
                  go_region
                  go_wp2
                  go_roundw
                  case rel => exact ⟨j + 1, by omega, by go_num, HA6H.out.next (Below.refl _ _).drew⟩
                  case measure => simp [intOf]; omega
              · go_wp2
                go_ret
                exact ⟨rfl, HA.below⟩
          · have hadv : (s0 : Int) + (k : Int) - ((m : Int) + 1) = (adv (m + 1) s0 k : Int) := by simp [adv, hA]; omega
            go_wp2_with fail
            clear hadv hd hc hal' hk hkv' hA
            go_loopw [25] (fun i wv => ∃ j : Nat, j ≤ m + 1 ∧ i = .int .i64 j ∧ After (lay f m) (slotL entry ks sstamp) w3.heap.size (w.heap.size + 1) wo.heap.size (w3.heap.size + 1) (m + 1) (adv (m + 1) s0 k) (wrap64 (used + 1)) depth w wv) (fun i _ => m + 1 - (intOf i).toNat)
            case atStart => exact ⟨0, Nat.zero_le _, rfl, HAH.out⟩
            case round =>
              clear ht0 ht1 ht2 HAH
              obtain ⟨j, hj, rfl, HA⟩ := hrel
              by_cases hjm : j < m + 1
              · have hjm' : (j : Int) < (m : Int) + 1 := by omega
                have hold := HA.old j hjm
                have HAH : Hid (After (lay f m) (slotL entry ks sstamp) w3.heap.size (w.heap.size + 1) wo.heap.size (w3.heap.size + 1) (m + 1) (adv (m + 1) s0 k) (wrap64 (used + 1)) depth w wr) := HA
                clear HA
                by_cases hjt : j = adv (m + 1) s0 k
                · have hjt' : ((j : Int) == (adv (m + 1) s0 k : Int)) = true := by simp; omega
                  have HJ : Hid (j = adv (m + 1) s0 k) := hjt
                  clear hjt
                  go_wp2_with (first
                    | (refine wpList_load_mid (by rfl) 29 _ (by rfl) _ _ (by rfl) (lay f m j) _ hold Yba.underlying29 rfl (by rw [Yba.size29, length_lay]) ?_)
                    | (refine wpList_store_turned (by rfl) _ _ (by rfl) wr.heap.size (lay f m j) (by rfl) (by rfl) (length_lay f m j) (lay_oneCell f m j) ?hnew ?_; rotate_right; intro w6 htu6 hV6 hT6; have HA6 := HAH.out.next (((Below.refl _ _).alloc (Nat.le_refl _) _).trans (htu6.below (Nat.le_refl _))); have hs6 := HA6.s; have HA6H : Hid (After (lay f m) (slotL entry ks sstamp) w3.heap.size (w.heap.size + 1) wo.heap.size (w3.heap.size + 1) (m + 1) (adv (m + 1) s0 k) (wrap64 (used + 1)) depth w w6) := HA6; clear HA6 hold)
                    | (refine wpList_load_mid (by rfl) 29 _ (by rfl) _ _ (by rfl) (slotL entry ks sstamp) _ hs6 Yba.underlying29 rfl (by rw [Yba.size29, length_slotL hk16]) ?_)
                    | (refine wpList_store_turned (by rfl) _ _ (by rfl) wr.heap.size (slotL entry ks sstamp) (by rfl) (by rfl) (length_slotL hk16) (slotL_oneCell _ _ _) hT6 ?_; intro w7 htu7 hV7 hT7)
                    | fail)
                  case hnew => exact there_new' _ _ _ _ _ (by simp) (by rfl)
                  have HA7 := HAH.out.next ((((Below.refl _ _).alloc (Nat.le_refl _) _).trans (htu6.below (Nat.le_refl _))).trans (htu7.below (Nat.le_refl _)))
                  have g0 := HA7.t0
                  have r1 := rowAt_of (n := 18) (HA7.now j hjm) (by rw [if_pos HJ.out]; exact length_slotL hk16)
                  rw [if_pos HJ.out] at r1
                  have r2 := rowAt_of (n := 18) hV7 (length_slotL hk16)
                  have hsl : IsSlot (slotL entry ks sstamp).toArray := ⟨_, _, _, hk16, rfl⟩
                  have HA7H : Hid (After (lay f m) (slotL entry ks sstamp) w3.heap.size (w.heap.size + 1) wo.heap.size (w3.heap.size + 1) (m + 1) (adv (m + 1) s0 k) (wrap64 (used + 1)) depth w w7) := HA7
                  clear HA7 HA6H HAH hT6 hV6 htu6 hs6 htu7 hV7 hT7
                  simp only [Act.put, List.setIfInBounds_toArray, List.set_cons_zero, List.set_cons_succ]
                  go_region
                  go_wp2
                  go_roundw
                  case rel => exact ⟨j + 1, by omega, by go_num, HA7H.out.next (Below.refl _ _).drew⟩
                  case measure => simp [intOf]; omega
                · have hjt' : ((j : Int) == (adv (m + 1) s0 k : Int)) = false := by simp; omega
                  go_wp2_with (first
                    | (refine wpList_load_mid (by rfl) 29 _ (by rfl) _ _ (by rfl) (lay f m j) _ hold Yba.underlying29 rfl (by rw [Yba.size29, length_lay]) ?_)
                    | (refine wpList_store_turned (by rfl) _ _ (by rfl) wr.heap.size (lay f m j) (by rfl) (by rfl) (length_lay f m j) (lay_oneCell f m j) ?hnew ?_; rotate_right; intro w6 htu6 hV6 hT6)
                    | fail)
                  case hnew => exact there_new' _ _ _ _ _ (by simp) (by rfl)
                  have HA6 := HAH.out.next (((Below.refl _ _).alloc (Nat.le_refl _) _).trans (htu6.below (Nat.le_refl _)))
                  have g0 := HA6.t0
                  have r1 := rowAt_of (n := 18) (HA6.now j hjm) (by rw [if_neg hjt]; exact length_lay f m j)
                  rw [if_neg hjt] at r1
                  have r2 := rowAt_of (n := 18) hV6 (length_lay f m j)
                  have hsl := lay_slot f m j
                  have HA6H : Hid (After (lay f m) (slotL entry ks sstamp) w3.heap.size (w.heap.size + 1) wo.heap.size (w3.heap.size + 1) (m + 1) (adv (m + 1) s0 k) (wrap64 (used + 1)) depth w w6) := HA6
                  clear HA6 HAH hold hT6 hV6 htu6
                  go_region
                  go_wp2
                  go_roundw
                  case rel => exact ⟨j + 1, by omega, by go_num, HA6H.out.next (Below.refl _ _).drew⟩
                  case measure => simp [intOf]; omega
              · go_wp2
                go_ret
                exact ⟨rfl, HA.below⟩
end Go.Proofs.Ybulkecly
