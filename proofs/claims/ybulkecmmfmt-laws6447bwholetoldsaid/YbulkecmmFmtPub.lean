/-
  PublishBatch: the road through claim and commit; the road written out.
-/
import Derived.Test.YbulkecmmFmtCp
import Derived.Deep.CutRange
import Derived.Deep.RegionWith
set_option linter.unusedVariables false
set_option linter.unusedSimpArgs false
namespace Go.Proofs.YbulkecmmFmt
open Go.RowKit

theorem below_drawn {X : Nat} {w w' : World} (h : Below X w w') (q : Nat) : Below X w (w'.drewN q) := ⟨h.os, h.tape, h.output, h.size, h.block⟩

set_option maxRecDepth 100000 in
set_option maxHeartbeats 2000000 in
theorem pb_slow {B R S c : Nat} {pb : Option Nat} {gt : Option (Nat × Nat)} {x x1 n nx lm lm1 sh sh1 : Nat} {s : Nat → Int} {p : Nat → Nat} {g : Nat} {wz w0 w : World} (T : Value → World → Prop) (h : Rg B R S c pb gt x nx lm sh s p g wz w0 w) (va : Option Addr) (k vcap : Nat) (v : Nat → Int) (hI : Ints w0 va k v) (hB0 : w0.heap.size ≤ B)
    (hc : isCap c) (hn : n < 2 ^ 32) (hnx : nx < 2 ^ 32) (hlm : lm < 2 ^ 63) (hk1 : 1 ≤ k) (hkc : k ≤ c) (hkv : k ≤ vcap) (hslow : ¬ (nx + k ≤ lm ∧ nx % c + k ≤ c))
    (hcl : ∀ w1, Rg B R S c pb gt x nx lm sh s p g wz w0 w1 → Calls Ybaf.prog 24 #[.pointer (some ⟨R, 0, none⟩), .int .u64 (k : Nat), .bool true] w1 fun e w' => e = .returned (.tuple #[.int .u64 (n : Nat), .bool true, .nilIface]) ∧ Rg B R S c pb gt x1 nx lm1 sh1 s p g wz w0 w')
    (hcm : ∀ w1, Rg B R S c pb gt x1 nx lm1 sh1 (wrt s v n k c) p g wz w0 w1 → Calls Ybaf.prog 25 #[.pointer (some ⟨R, 0, none⟩), .int .u64 (n : Nat), .int .u64 (k : Nat)] w1 fun e w' => ∃ u, e = .returned u ∧ T u w') :
    Calls Ybaf.prog 7 #[.pointer (some ⟨R, 0, none⟩), .slice va k vcap] w fun e w' => ∃ u, e = .returned u ∧ T u w' := by
  have hcl128 := hc.le
  have hcp := hc.pos
  have c2 := h.c2
  have c1 := h.c1
  have c391 := h.c391
  have c392 := h.c392
  have hm := hc.mask (n := nx) (by omega)
  have hk0 : ((k : Int) == 0) = false := by simp; omega
  have hkc' : decide ((c : Int) < (k : Int)) = false := by simp; omega
  have hkc2 : decide (c < k) = false := by simp; omega
  have HR : Hid (Rg B R S c pb gt x nx lm sh s p g wz w0 w) := h
  have HCL : Hid (∀ w1, Rg B R S c pb gt x nx lm sh s p g wz w0 w1 → Calls Ybaf.prog 24 #[.pointer (some ⟨R, 0, none⟩), .int .u64 (k : Nat), .bool true] w1 fun e w' => e = .returned (.tuple #[.int .u64 (n : Nat), .bool true, .nilIface]) ∧ Rg B R S c pb gt x1 nx lm1 sh1 s p g wz w0 w') := hcl
  have HCM : Hid (∀ w1, Rg B R S c pb gt x1 nx lm1 sh1 (wrt s v n k c) p g wz w0 w1 → Calls Ybaf.prog 25 #[.pointer (some ⟨R, 0, none⟩), .int .u64 (n : Nat), .int .u64 (k : Nat)] w1 fun e w' => ∃ u, e = .returned u ∧ T u w') := hcm
  have HI : Hid (Ints w0 va k v) := hI
  clear h hcl hcm hI
  go_enter Ybaf.func7, Ybaf.ntmps7
  go_upto_region 7 with fail
  go_cut [60] from 38 to 60 (fun s60 wx => s60 = .bool false ∧ ∃ q, wx = w.drewN q)
  case first =>
    have hlt : nx % c < c := Nat.mod_lt _ hcp
    by_cases hA : nx + k ≤ lm
    · have hB : ¬ nx % c + k ≤ c := fun e => hslow ⟨hA, e⟩
      obtain ⟨i0, hi0⟩ : ∃ i0, i0 = nx % c := ⟨_, rfl⟩
      rw [← hi0] at hm hB hlt
      clear hi0 hslow
      have dA : decide ((nx : Int) + (k : Int) ≤ (lm : Int)) = true := by simp; omega
      have dB : decide ((i0 : Int) + (k : Int) ≤ (c : Int)) = false := by simp; omega
      have hw1 : IntKind.u64.wrap ((nx : Int) + (k : Int)) = (nx : Int) + (k : Int) := by rw [IntKind.wrap_u64]; omega
      have hw2 : IntKind.u64.wrap ((i0 : Int) + (k : Int)) = (i0 : Int) + (k : Int) := by rw [IntKind.wrap_u64]; omega
      go_quiet (fail)
      go_wp2_with fail
      go_meet
      exact ⟨rfl, _, rfl⟩
    · have dA : decide ((nx : Int) + (k : Int) ≤ (lm : Int)) = false := by simp; omega
      have hw1 : IntKind.u64.wrap ((nx : Int) + (k : Int)) = (nx : Int) + (k : Int) := by rw [IntKind.wrap_u64]; omega
      go_region
      go_wp2_with fail
      go_meet
      exact ⟨rfl, 1, rfl⟩
  case rest =>
    clear c2 c1 c391 c392 hm hslow
    obtain ⟨rfl, q, hwx⟩ := hcut
    have HR1 : Rg B R S c pb gt x nx lm sh s p g wz w0 wc := by rw [hwx]; exact HR.out.next (below_drawn (Below.refl _ _) q)
    have HR1H : Hid (Rg B R S c pb gt x nx lm sh s p g wz w0 wc) := HR1
    clear HR1 hwx HR
    go_upto_region 17 with (go_at_call 24; refine (HCL.out _ HR1H.out).mono ?_; rintro e w2 ⟨rfl, HR2⟩; have HR2H : Hid (Rg B R S c pb gt x1 nx lm1 sh1 s p g wz w0 w2) := HR2; clear HR2 HR1H HCL)
    obtain ⟨b, o, rfl, hv0⟩ := HI.out 0 (by omega)
    have hv2 : Hid (∀ j, j < k → w2.cell? ⟨b, o + j, none⟩ = some (.int .i64 (v j))) := fun j hj => by
      obtain ⟨b', o', e', hc'⟩ := (HI.out.below HR2H.out.below hB0) j hj
      cases e'; exact hc'
    have hlt : n % c < c := Nat.mod_lt _ hcp
    have hm := hc.mask (n := n) (by omega)
    have c0 := HR2H.out.c0
    have c1 := HR2H.out.c1
    by_cases hflat : n % c + k ≤ c
    · obtain ⟨w3, hcp1, HR3⟩ := copy_slots (HR2H.out.next (Below.refl _ _).drew) b o 0 k k (n % c) (c - n % c) vcap v hv2.out (Nat.zero_le _) (by omega) (Nat.min_eq_left (by omega)).symm 3
      obtain ⟨i0, hi0⟩ : ∃ i0, i0 = n % c := ⟨_, rfl⟩
      have HR3' := HR3.congrS (s' := wrt s v n k c) (fun i hi => wrt_flat hc hflat hi)
      have HR3H : Hid (Rg B R S c pb gt x1 nx lm1 sh1 (wrt s v n k c) p g wz w0 w3) := HR3'
      have d0 := HR3'.c0
      rw [← hi0] at hm hlt hcp1
      have hcp2 : ∀ a sc w, (Builtin.copy_ #[24, 24] 3 #[.slice (some ⟨S, 0, none⟩) c c, .slice a 0 sc]).run Ybaf.prog w = .ok (.int .i64 0) w := fun a sc w => run_copy_none (P := Ybaf.prog) w 24 24 3 3 (some ⟨S, 0, none⟩) a c c 0 sc Ybaf.underlying24 info3' (by simp)
      simp only [Nat.add_zero, Nat.sub_zero] at hcp1
      clear HR3 HR3' hi0 hflat hv0
      go_region
      clear hcp1 c0 c1
      go_wp2_with fail
      go_region
      all_goals
        go_wp2_with (go_at_call 25; refine (HCM.out _ (HR3H.out.next (Below.refl _ _).drew)).mono ?_; rintro e w9 ⟨u, rfl, HT⟩; have HTH : Hid (T u w9) := HT; clear HT)
        all_goals
          go_ret
          exact ⟨_, rfl, HTH.out⟩
    · obtain ⟨d, hd⟩ : ∃ d, d = c - n % c := ⟨_, rfl⟩
      have hdk : d < k := by omega
      obtain ⟨w3, hcp1, HR3⟩ := copy_slots (HR2H.out.next (Below.refl _ _).drew) b o 0 k d (n % c) (c - n % c) vcap v hv2.out (Nat.zero_le _) (by omega) (by rw [hd]; exact (Nat.min_eq_right (by omega)).symm) 3
      have hv3 : ∀ j, j < k → w3.drew.cell? ⟨b, o + j, none⟩ = some (.int .i64 (v j)) := fun j hj => by
        obtain ⟨b', o', e', hc'⟩ := (HI.out.below HR3.below hB0) j hj
        cases e'; exact hc'
      obtain ⟨w4, hcp2, HR4⟩ := copy_slots (HR3.next (Below.refl _ _).drew) b o d k (k - d) 0 c (vcap - d) v hv3 (by omega) (Nat.zero_le _) (Nat.min_eq_left (by omega)).symm 3
      have HR4' := HR4.congrS (s' := wrt s v n k c) (fun i hi => by rw [hd]; exact wrt_turn hc (by omega) hkc hi)
      have HR4H : Hid (Rg B R S c pb gt x1 nx lm1 sh1 (wrt s v n k c) p g wz w0 w4) := HR4'
      have d0 := HR3.c0
      have hne : ¬ vcap = d := by omega
      have hdc : d ≤ k := by omega
      obtain ⟨i0, hi0⟩ : ∃ i0, i0 = n % c := ⟨_, rfl⟩
      rw [← hi0] at hm hlt hcp1
      simp only [Nat.add_zero, Nat.sub_zero] at hcp1 hcp2
      clear HR3 HR4 HR4' hi0 hflat hv0 hd hv3
      go_region
      clear hcp1 c0 c1
      go_wp2_with fail
      go_region
      go_wp2_with (go_at_call 25; refine (HCM.out _ HR4H.out).mono ?_; rintro e w9 ⟨u, rfl, HT⟩; have HTH : Hid (T u w9) := HT; clear HT)
      go_ret
      exact ⟨_, rfl, HTH.out⟩

set_option maxRecDepth 100000 in
set_option maxHeartbeats 2000000 in
theorem pb_fast_open {B R S c : Nat} {gt : Option (Nat × Nat)} { n lm sh : Nat} {s : Nat → Int} {p : Nat → Nat} {g : Nat} {wz w0 w : World} (h : Rg B R S c none gt n n lm sh s p g wz w0 w) (va : Option Addr) (k vcap : Nat) (v : Nat → Int) (hI : Ints w0 va k v) (hB0 : w0.heap.size ≤ B)
    (hc : isCap c) (hn : n < 2 ^ 32) (hlm : lm < 2 ^ 63) (hk1 : 1 ≤ k) (hkc : k ≤ c) (hA : n + k ≤ lm) (hB : n % c + k ≤ c) :
    Calls Ybaf.prog 7 #[.pointer (some ⟨R, 0, none⟩), .slice va k vcap] w fun e w' => e = .returned .nilIface ∧ Rg B R S c none gt (n + k) (n + k) lm sh (wrt s v n k c) p g wz w0 w' := by
  have hcl128 := hc.le
  have hcp := hc.pos
  have c0 := h.c0
  have c2 := h.c2
  have c1 := h.c1
  have c391 := h.c391
  have c392 := h.c392
  have hm := hc.mask (n := n) (by omega)
  have hk0 : ((k : Int) == 0) = false := by simp; omega
  have hkc' : decide ((c : Int) < (k : Int)) = false := by simp; omega
  have hkc2 : decide (c < k) = false := by simp; omega
  have hlt : n % c < c := Nat.mod_lt _ hcp
  obtain ⟨b, o, rfl, hv0⟩ := hI 0 (by omega)
  have hv2 : ∀ j, j < k → w.drew.drew.cell? ⟨b, o + j, none⟩ = some (.int .i64 (v j)) := fun j hj => by
    obtain ⟨b', o', e', hc'⟩ := (hI.below h.below hB0) j hj
    cases e'; exact hc'
  obtain ⟨w3, hcp1, HR3⟩ := copy_slots (h.next (Below.refl _ _).drew.drew) b o 0 k k (n % c) (c - n % c) vcap v hv2 (Nat.zero_le _) (by omega) (Nat.min_eq_left (by omega)).symm 3
  have HR3' := HR3.congrS (s' := wrt s v n k c) (fun i hi => wrt_flat hc hB hi)
  have d135 := HR3'.c135
  have z135 := HR3'.free 135
  have h2 := HR3'.setX (n + k)
  have h3 := h2.setNx (n + k)
  have d391 : (w3.setCell ⟨R, 135, none⟩ (.int .u64 ((n : Int) + (k : Int)))).cell? ⟨R, 391, none⟩ = some (.int .u64 (n : Nat)) := h2.c391
  have z391 : (w3.setCell ⟨R, 135, none⟩ (.int .u64 ((n : Int) + (k : Int)))).frozen? ⟨R, 391, none⟩ = false := h2.free 391
  have e136 : ((w3.setCell ⟨R, 135, none⟩ (.int .u64 ((n : Int) + (k : Int)))).setCell ⟨R, 391, none⟩ (.int .u64 ((n : Int) + (k : Int)))).cell? ⟨R, 136, none⟩ = some (.int .u32 0) := h3.c136
  have HR : Hid (Rg B R S c none gt (n + k) (n + k) lm sh (wrt s v n k c) p g wz w0 ((w3.setCell ⟨R, 135, none⟩ (.int .u64 ((n + k : Nat) : Int))).setCell ⟨R, 391, none⟩ (.int .u64 ((n + k : Nat) : Int)))) := h3
  clear h2 h3
  obtain ⟨i0, hi0⟩ : ∃ i0, i0 = n % c := ⟨_, rfl⟩
  rw [← hi0] at hm hlt hcp1 hB
  simp only [Nat.add_zero, Nat.sub_zero] at hcp1
  have dA : decide ((n : Int) + (k : Int) ≤ (lm : Int)) = true := by simp; omega
  have dB : decide ((i0 : Int) + (k : Int) ≤ (c : Int)) = true := by simp; omega
  have hw1 : IntKind.u64.wrap ((n : Int) + (k : Int)) = (n : Int) + (k : Int) := by rw [IntKind.wrap_u64]; omega
  have hw2 : IntKind.u64.wrap ((i0 : Int) + (k : Int)) = (i0 : Int) + (k : Int) := by rw [IntKind.wrap_u64]; omega
  clear h HR3 HR3' hi0 hv0 hI hv2
  go_enter Ybaf.func7, Ybaf.ntmps7
  go_wp2_with fail
  go_region
  go_wp2_with fail
  go_region
  clear hcp1
  go_wp2_with (first | (go_at_call 21; refine (cas_hit R 135 _ _ _ d135 z135).mono ?_; rintro e w' ⟨rfl, rfl⟩) | (go_at_call 23; refine (wake_none R 7 _ e136).mono ?_; rintro e w' ⟨rfl, rfl⟩))
  go_ret
  exact ⟨rfl, HR.out⟩

set_option maxRecDepth 100000 in
set_option maxHeartbeats 2000000 in
theorem pb_fast_shut {B R S c : Nat} {gt : Option (Nat × Nat)} {fl  n lm sh : Nat} {s : Nat → Int} {p : Nat → Nat} {g : Nat} {wz w0 w : World} (h : Rg B R S c none gt (word fl n) n lm sh s p g wz w0 w) (va : Option Addr) (k vcap : Nat) (v : Nat → Int) (hI : Ints w0 va k v) (hB0 : w0.heap.size ≤ B)
    (hc : isCap c) (hn : n < 2 ^ 32) (hlm : lm < 2 ^ 63) (hk1 : 1 ≤ k) (hkc : k ≤ c) (hA : n + k ≤ lm) (hB : n % c + k ≤ c) (hf : fl < 4) (h0 : fl ≠ 0) (aC aN : Addr) (h1 : w0.cell? ⟨1, 0, none⟩ = some (.iface 142 (.pointer (some aC)))) (h2 : w0.cell? ⟨2, 0, none⟩ = some (.iface 142 (.pointer (some aN)))) :
    Calls Ybaf.prog 7 #[.pointer (some ⟨R, 0, none⟩), .slice va k vcap] w fun e w' => e = .returned (shutE fl aC aN) ∧ Rg B R S c none gt (word fl n) n lm sh (wrt s v n k c) p g wz w0 w' := by
  have hcl128 := hc.le
  have hcp := hc.pos
  have c0 := h.c0
  have c2 := h.c2
  have c1 := h.c1
  have c391 := h.c391
  have c392 := h.c392
  have hm := hc.mask (n := n) (by omega)
  have hk0 : ((k : Int) == 0) = false := by simp; omega
  have hkc' : decide ((c : Int) < (k : Int)) = false := by simp; omega
  have hkc2 : decide (c < k) = false := by simp; omega
  have hlt : n % c < c := Nat.mod_lt _ hcp
  obtain ⟨b, o, rfl, hv0⟩ := hI 0 (by omega)
  have hv2 : ∀ j, j < k → w.drew.drew.cell? ⟨b, o + j, none⟩ = some (.int .i64 (v j)) := fun j hj => by
    obtain ⟨b', o', e', hc'⟩ := (hI.below h.below hB0) j hj
    cases e'; exact hc'
  obtain ⟨w3, hcp1, HR3⟩ := copy_slots (h.next (Below.refl _ _).drew.drew) b o 0 k k (n % c) (c - n % c) vcap v hv2 (Nat.zero_le _) (by omega) (Nat.min_eq_left (by omega)).symm 3
  have HR3' := HR3.congrS (s' := wrt s v n k c) (fun i hi => wrt_flat hc hB hi)
  have d135 := HR3'.c135
  have z135 := HR3'.free 135
  have HRF : Hid (Calls Ybaf.prog 22 #[.pointer (some ⟨R, 0, none⟩)] w3 fun e w' => e = .returned (shutE fl aC aN) ∧ w' = w3) := refused_shut R fl n aC aN w3 hf (by omega) h0 d135 ((HR3.below.cell (by have := World.block_lt_of_cell? w0 _ h1; show (1 : Nat) < B; have : 1 < w0.heap.size := this; omega)).trans h1) ((HR3.below.cell (by have := World.block_lt_of_cell? w0 _ h2; show (2 : Nat) < B; have : 2 < w0.heap.size := this; omega)).trans h2)
  have hxn : ¬ ((word fl n : Nat) : Int) = (n : Int) := by unfold word; omega
  have HR : Hid (Rg B R S c none gt (word fl n) n lm sh (wrt s v n k c) p g wz w0 w3) := HR3'
  clear h1 h2
  obtain ⟨i0, hi0⟩ : ∃ i0, i0 = n % c := ⟨_, rfl⟩
  rw [← hi0] at hm hlt hcp1 hB
  simp only [Nat.add_zero, Nat.sub_zero] at hcp1
  have dA : decide ((n : Int) + (k : Int) ≤ (lm : Int)) = true := by simp; omega
  have dB : decide ((i0 : Int) + (k : Int) ≤ (c : Int)) = true := by simp; omega
  have hw1 : IntKind.u64.wrap ((n : Int) + (k : Int)) = (n : Int) + (k : Int) := by rw [IntKind.wrap_u64]; omega
  have hw2 : IntKind.u64.wrap ((i0 : Int) + (k : Int)) = (i0 : Int) + (k : Int) := by rw [IntKind.wrap_u64]; omega
  clear h HR3 HR3' hi0 hv0 hI hv2
  go_enter Ybaf.func7, Ybaf.ntmps7
  go_wp2_with fail
  go_region
  go_wp2_with fail
  go_region
  clear hcp1
  go_wp2_with (first | (go_at_call 21; refine (cas_miss R 135 _ _ _ _ d135 z135 hxn).mono ?_; rintro e w' ⟨rfl, rfl⟩) | (go_at_call 22; refine HRF.out.mono ?_; rintro e w' ⟨rfl, rfl⟩))
  go_ret
  exact ⟨rfl, HR.out⟩
end Go.Proofs.YbulkecmmFmt
