/-
  publishErr, refused, freeLimit, claimShared, claim, commit, by contract (nothing waits).
-/
import Derived.Test.YbulkecmmFmtRg
import Derived.Deep.RegionWith
import Derived.Deep.QuietTactic
import Derived.Deep.CutRange
import Derived.OwnWalk
import Derived.WalkSpells
set_option linter.unusedVariables false
set_option linter.unusedSimpArgs false
namespace Go.Proofs.YbulkecmmFmt
open Go.RowKit

/-- The error of a ring that is not open: closed, or not started. -/
def shutE (fl : Nat) (aC aN : Addr) : Value := .iface 142 (.pointer (some (if fl / 2 = 0 then aN else aC)))

set_option maxRecDepth 100000 in
theorem publishErr_word (fl n : Nat) (aC aN : Addr) (w : World) (hf : fl < 4) (hn : n < 2 ^ 62) (h1 : w.cell? ⟨1, 0, none⟩ = some (.iface 142 (.pointer (some aC)))) (h2 : w.cell? ⟨2, 0, none⟩ = some (.iface 142 (.pointer (some aN)))) :
    Calls Ybaf.prog 38 #[.int .u64 (word fl n : Nat)] w fun e w' => e = .returned (shutE fl aC aN) ∧ w' = w := by
  have hb := bits_closed (n := n) hf hn
  by_cases h0 : fl / 2 = 0
  · have hz : (((fl / 2) * 2 ^ 63 : Nat) : Int) = 0 := by rw [h0]; rfl
    rw [hz] at hb
    go_enter Ybaf.func38, Ybaf.ntmps38
    go_wp2
    go_ret
    exact ⟨by simp [shutE, h0], rfl⟩
  · have h1' : fl / 2 = 1 := by omega
    have hz : (((fl / 2) * 2 ^ 63 : Nat) : Int) = 9223372036854775808 := by rw [h1']; rfl
    rw [hz] at hb
    go_enter Ybaf.func38, Ybaf.ntmps38
    go_wp2
    go_ret
    exact ⟨by simp [shutE, h0], rfl⟩

/-- The word's flags are not all down. -/
theorem flags_ne {fl n : Nat} (hf : fl < 4) (hn : n < 2 ^ 62) (h0 : fl ≠ 0) : (bits .and .u64 (word fl n : Nat) 13835058055282163712 != 0) = true := by
  rw [bits_flags hf hn]; simp; omega

set_option maxRecDepth 100000 in
theorem refused_shut (R fl n : Nat) (aC aN : Addr) (w : World) (hf : fl < 4) (hn : n < 2 ^ 62) (h0 : fl ≠ 0) (hc : w.cell? ⟨R, 135, none⟩ = some (.int .u64 (word fl n : Nat)))
    (h1 : w.cell? ⟨1, 0, none⟩ = some (.iface 142 (.pointer (some aC)))) (h2 : w.cell? ⟨2, 0, none⟩ = some (.iface 142 (.pointer (some aN)))) :
    Calls Ybaf.prog 22 #[.pointer (some ⟨R, 0, none⟩)] w fun e w' => e = .returned (shutE fl aC aN) ∧ w' = w := by
  have hb := flags_ne hf hn h0
  have HE : Hid (Calls Ybaf.prog 38 #[.int .u64 (word fl n : Nat)] w fun e w' => e = .returned (shutE fl aC aN) ∧ w' = w) := publishErr_word fl n aC aN w hf hn h1 h2
  clear h1 h2
  go_enter Ybaf.func22, Ybaf.ntmps22
  go_wp2_with (first | (go_at_call 9; refine (load_u64 R 135 _ w hc).mono ?_; rintro e w' ⟨rfl, rfl⟩) | (go_at_call 38; refine HE.out.mono ?_; rintro e w' ⟨rfl, rfl⟩))
  go_ret
  exact ⟨rfl, rfl⟩

/-- The bound that freeLimit answers. -/
def newLim (c : Nat) (gt : Option (Nat × Nat)) (g : Nat) : Nat := match gt with
  | none => 4611686018427387903 + c
  | some _ => g + c

/-- A bound that is renewed where it does not cover t. -/
def raise (l t new : Nat) : Nat := if l < t then new else l

set_option maxRecDepth 100000 in
set_option maxHeartbeats 1000000 in
theorem freeLimit_any {B R S c : Nat} {pb : Option Nat} {gt : Option (Nat × Nat)} {x nx lm sh : Nat} {s : Nat → Int} {p : Nat → Nat} {g : Nat} {wz w0 w : World} (h : Rg B R S c pb gt x nx lm sh s p g wz w0 w) (hc : isCap c) (last : Nat) (hg : g < 2 ^ 62) (hl : gt.isSome → last < g + c) :
    Calls Ybaf.prog 42 #[.pointer (some ⟨R, 0, none⟩), .int .u64 (last : Nat), .bool true] w fun e w' => e = .returned (.int .u64 (newLim c gt g : Nat)) ∧ w' = w := by
  have hcl := hc.le
  have c2 := h.c2
  have c6 := h.c6
  cases gt with
  | none =>
    simp only [gatV] at c6
    clear h
    go_enter Ybaf.func42, Ybaf.ntmps42
    go_wp2_with fail
    refine wp_loop_rounds 1 ?_
    rw [rounds_succ]
    go_wp2
    go_ret
    exact ⟨by simp only [newLim]; congr 2, rfl⟩
  | some q =>
    obtain ⟨Gb, Gs⟩ := q
    obtain ⟨_, _, ⟨c1, hb1, hv1⟩, c2', hb2, hv2⟩ := h.gat Gb Gs rfl
    have hlast : last < g + c := hl rfl
    simp only [gatV] at c6
    have k1 : w.cell? ⟨Gb, 0, none⟩ = some (.pointer (some ⟨Gs, 0, none⟩)) := by rw [cell_of_row _ _ _ _ _ _ hb1]; exact hv1
    have k2 : w.cell? ⟨Gs, 128, none⟩ = some (.int .u64 (g : Nat)) := by rw [cell_of_row _ _ _ _ _ _ hb2]; exact hv2
    have hbc := bits_count0 hg
    have hdec : decide ((g : Int) + (c : Int) ≤ (last : Int)) = false := by simp; omega
    clear h hb1 hb2 hv1 hv2
    go_enter Ybaf.func42, Ybaf.ntmps42
    go_wp2_with fail
    go_loopw [7, 16] (fun lo i wr => ((i = .int .i64 0 ∧ lo = .int .u64 4611686018427387903) ∨ (i = .int .i64 1 ∧ lo = .int .u64 (g : Nat))) ∧ wr = w) (fun _ i _ => 1 - (intOf i).toNat)
    case atStart => exact ⟨.inl ⟨rfl, rfl⟩, rfl⟩
    case round =>
      obtain ⟨⟨rfl, rfl⟩ | ⟨rfl, rfl⟩, rfl⟩ := hrel
      · go_wp2_with (go_at_call 9; refine (load_u64 Gs 128 _ _ k2).mono ?_; rintro e w' ⟨rfl, rfl⟩)
        refine ⟨⟨.inr ⟨rfl, ?_⟩, trivial⟩, by simp [intOf]⟩
        have e : (if (g : Int) < 4611686018427387903 then (g : Int) else 4611686018427387903) = (g : Int) := by
          by_cases hlt : (g : Int) < 4611686018427387903
          · rw [if_pos hlt]
          · rw [if_neg hlt]; omega
        rw [e]
      · go_wp2
        go_ret
        exact ⟨by simp only [newLim]; congr 2, rfl⟩

set_option maxRecDepth 100000 in
set_option maxHeartbeats 1000000 in
theorem claimShared_shut {B R S c Pb : Nat} {gt : Option (Nat × Nat)} {fl n nx lm sh : Nat} {s : Nat → Int} {p : Nat → Nat} {g : Nat} {wz w0 w : World} (h : Rg B R S c (some Pb) gt (word fl n) nx lm sh s p g wz w0 w) (k : Nat) (hf : fl < 4) (hn : n < 2 ^ 62) (h0 : fl ≠ 0) (aC aN : Addr)
    (h1 : w.cell? ⟨1, 0, none⟩ = some (.iface 142 (.pointer (some aC)))) (h2 : w.cell? ⟨2, 0, none⟩ = some (.iface 142 (.pointer (some aN)))) :
    Calls Ybaf.prog 41 #[.pointer (some ⟨R, 0, none⟩), .int .u64 (k : Nat), .bool true] w fun e w' => e = .returned (.tuple #[.int .u64 0, .bool false, shutE fl aC aN]) ∧ w' = w := by
  have hb := flags_ne hf hn h0
  have hc := h.c135
  have HE : Hid (Calls Ybaf.prog 38 #[.int .u64 (word fl n : Nat)] w fun e w' => e = .returned (shutE fl aC aN) ∧ w' = w) := publishErr_word fl n aC aN w hf hn h1 h2
  clear h1 h2 h
  go_enter Ybaf.func41, Ybaf.ntmps41
  go_wp2_with fail
  go_loopw [6] (fun _ wr => wr = w) (fun _ _ => 0)
  case atStart => rfl
  case round =>
    obtain rfl := hrel
    go_wp2_with (first | (go_at_call 9; refine (load_u64 R 135 _ _ hc).mono ?_; rintro e w' ⟨rfl, rfl⟩) | (go_at_call 38; refine HE.out.mono ?_; rintro e w' ⟨rfl, rfl⟩))
    go_ret3
    exact ⟨rfl, rfl⟩

set_option maxRecDepth 100000 in
set_option maxHeartbeats 1000000 in
theorem claimShared_open {B R S c Pb : Nat} {gt : Option (Nat × Nat)} {n nx lm sh : Nat} {s : Nat → Int} {p : Nat → Nat} {g : Nat} {wz w0 w : World} (h : Rg B R S c (some Pb) gt n nx lm sh s p g wz w0 w) (k : Nat) (hc : isCap c) (hn : n < 2 ^ 32) (hk1 : 1 ≤ k) (hkc : k ≤ c) (hg : g < 2 ^ 62) (hgt : gt.isSome → n + k ≤ g + c) :
    Calls Ybaf.prog 41 #[.pointer (some ⟨R, 0, none⟩), .int .u64 (k : Nat), .bool true] w fun e w' => e = .returned (.tuple #[.int .u64 (n : Nat), .bool true, .nilIface]) ∧ Rg B R S c (some Pb) gt (n + k) nx lm (raise sh (n + k) (newLim c gt g)) s p g wz w0 w' := by
  have hcl := hc.le
  have hb : bits .and .u64 (n : Nat) 13835058055282163712 = 0 := by
    have := bits_flags (fl := 0) (n := n) (by decide) (by omega)
    rw [word_zero] at this; simpa using this
  have hlim : n + k ≤ newLim c gt g := by
    cases gt with
    | none => simp only [newLim]; omega
    | some q => simp only [newLim]; exact hgt rfl
  have HFL : Hid (Calls Ybaf.prog 42 #[.pointer (some ⟨R, 0, none⟩), .int .u64 ((n + k - 1 : Nat) : Int), .bool true] w fun e w' => e = .returned (.int .u64 (newLim c gt g : Nat)) ∧ w' = w) := freeLimit_any h hc (n + k - 1) hg (fun hs => by have := hgt hs; omega)
  have hsub : ((n : Int) + (k : Int) - 1) = ((n + k - 1 : Nat) : Int) := by omega
  have c135 := h.c135
  have c393 := h.c393
  have z135 := h.free 135
  have z393 := h.free 393
  have HR : Hid (Rg B R S c (some Pb) gt n nx lm sh s p g wz w0 w) := h
  clear h
  by_cases hsh : sh < n + k
  · have hsh' : decide ((sh : Int) < (n : Int) + (k : Int)) = true := by simp; omega
    have hl' : decide ((newLim c gt g : Int) < (n : Int) + (k : Int)) = false := by simp; omega
    go_enter Ybaf.func41, Ybaf.ntmps41
    go_wp2_with fail
    go_loopw [6] (fun _ wr => wr = w) (fun _ _ => 0)
    case atStart => rfl
    case round =>
      obtain rfl := hrel
      go_wp2_with (first | (go_at_call_of 9 (Value.pointer (some ⟨R, 135, none⟩)); refine (load_u64 R 135 _ _ c135).mono ?_; rintro e w' ⟨rfl, rfl⟩) | (go_at_call_of 9 (Value.pointer (some ⟨R, 393, none⟩)); refine (load_u64 R 393 _ _ c393).mono ?_; rintro e w' ⟨rfl, rfl⟩) | (go_at_call 42; refine HFL.out.mono ?_; rintro e w' ⟨rfl, rfl⟩) | (go_at_call 5; refine (store_u64 R 393 _ _ _ c393 z393).mono ?_; rintro e w2 ⟨rfl, hw2⟩; have HR2 := HR.out.setSh (newLim c gt g); rw [← hw2] at HR2; have HR2H : Hid (Rg B R S c (some Pb) gt n nx lm (newLim c gt g) s p g wz w0 w2) := HR2; have d135 := HR2.c135; have y135 := HR2.free 135; clear hw2 HR2) | (go_at_call 21; refine (cas_hit R 135 _ _ _ d135 y135).mono ?_; rintro e w3 ⟨rfl, rfl⟩))
      go_ret3
      refine ⟨rfl, ?_⟩
      rw [show raise sh (n + k) (newLim c gt g) = newLim c gt g from if_pos hsh]
      exact HR2H.out.setX (n + k)
  · have hsh' : decide ((sh : Int) < (n : Int) + (k : Int)) = false := by simp; omega
    go_enter Ybaf.func41, Ybaf.ntmps41
    go_wp2_with fail
    go_loopw [6] (fun _ wr => wr = w) (fun _ _ => 0)
    case atStart => rfl
    case round =>
      obtain rfl := hrel
      go_wp2_with (first | (go_at_call_of 9 (Value.pointer (some ⟨R, 135, none⟩)); refine (load_u64 R 135 _ _ c135).mono ?_; rintro e w' ⟨rfl, rfl⟩) | (go_at_call_of 9 (Value.pointer (some ⟨R, 393, none⟩)); refine (load_u64 R 393 _ _ c393).mono ?_; rintro e w' ⟨rfl, rfl⟩) | (go_at_call 21; refine (cas_hit R 135 _ _ _ c135 z135).mono ?_; rintro e w3 ⟨rfl, rfl⟩))
      go_ret3
      refine ⟨rfl, ?_⟩
      rw [show raise sh (n + k) (newLim c gt g) = sh from if_neg hsh]
      exact HR.out.setX (n + k)

set_option maxRecDepth 100000 in
theorem claim_multi_shut {B R S c Pb : Nat} {gt : Option (Nat × Nat)} {fl n nx lm sh : Nat} {s : Nat → Int} {p : Nat → Nat} {g : Nat} {wz w0 w : World} (h : Rg B R S c (some Pb) gt (word fl n) nx lm sh s p g wz w0 w) (k : Nat) (hf : fl < 4) (hn : n < 2 ^ 62) (h0 : fl ≠ 0) (aC aN : Addr)
    (h1 : w.cell? ⟨1, 0, none⟩ = some (.iface 142 (.pointer (some aC)))) (h2 : w.cell? ⟨2, 0, none⟩ = some (.iface 142 (.pointer (some aN)))) :
    Calls Ybaf.prog 24 #[.pointer (some ⟨R, 0, none⟩), .int .u64 (k : Nat), .bool true] w fun e w' => e = .returned (.tuple #[.int .u64 0, .bool false, shutE fl aC aN]) ∧ w' = w := by
  have c3 := h.c3
  simp only [pubV] at c3
  have HS : Hid (Calls Ybaf.prog 41 #[.pointer (some ⟨R, 0, none⟩), .int .u64 (k : Nat), .bool true] w fun e w' => e = .returned (.tuple #[.int .u64 0, .bool false, shutE fl aC aN]) ∧ w' = w) := claimShared_shut h k hf hn h0 aC aN h1 h2
  have hne := fun w => run_neq_slice_nil_any (P := Ybaf.prog) w 27 36 (some ⟨Pb, 0, none⟩) c c 0 0 Ybaf.underlying27
  clear h h1 h2
  go_enter Ybaf.func24, Ybaf.ntmps24
  go_wp2_with (go_at_call 41; refine HS.out.mono ?_; rintro e w' ⟨rfl, rfl⟩)
  go_ret3
  exact ⟨rfl, rfl⟩

set_option maxRecDepth 100000 in
theorem claim_multi_open {B R S c Pb : Nat} {gt : Option (Nat × Nat)} {n nx lm sh : Nat} {s : Nat → Int} {p : Nat → Nat} {g : Nat} {wz w0 w : World} (h : Rg B R S c (some Pb) gt n nx lm sh s p g wz w0 w) (k : Nat) (hc : isCap c) (hn : n < 2 ^ 32) (hk1 : 1 ≤ k) (hkc : k ≤ c) (hg : g < 2 ^ 62) (hgt : gt.isSome → n + k ≤ g + c) :
    Calls Ybaf.prog 24 #[.pointer (some ⟨R, 0, none⟩), .int .u64 (k : Nat), .bool true] w fun e w' => e = .returned (.tuple #[.int .u64 (n : Nat), .bool true, .nilIface]) ∧ Rg B R S c (some Pb) gt (n + k) nx lm (raise sh (n + k) (newLim c gt g)) s p g wz w0 w' := by
  have c3 := h.c3
  simp only [pubV] at c3
  have HS : Hid (Calls Ybaf.prog 41 #[.pointer (some ⟨R, 0, none⟩), .int .u64 (k : Nat), .bool true] w fun e w' => e = .returned (.tuple #[.int .u64 (n : Nat), .bool true, .nilIface]) ∧ Rg B R S c (some Pb) gt (n + k) nx lm (raise sh (n + k) (newLim c gt g)) s p g wz w0 w') := claimShared_open h k hc hn hk1 hkc hg hgt
  have hne := fun w => run_neq_slice_nil_any (P := Ybaf.prog) w 27 36 (some ⟨Pb, 0, none⟩) c c 0 0 Ybaf.underlying27
  clear h
  go_enter Ybaf.func24, Ybaf.ntmps24
  go_wp2_with (go_at_call 41; refine HS.out.mono ?_; rintro e w' ⟨rfl, HR⟩; have HRH : Hid (Rg B R S c (some Pb) gt (n + k) nx lm (raise sh (n + k) (newLim c gt g)) s p g wz w0 w') := HR; clear HR)
  go_ret3
  exact ⟨rfl, HRH.out⟩

set_option maxRecDepth 100000 in
theorem claim_cached {B R S c : Nat} {gt : Option (Nat × Nat)} {x n lm sh : Nat} {s : Nat → Int} {p : Nat → Nat} {g : Nat} {wz w0 w : World} (h : Rg B R S c none gt x n lm sh s p g wz w0 w) (k : Nat) (hn : n < 2 ^ 32) (hk : k ≤ 128) (hlm : n + k ≤ lm) :
    Calls Ybaf.prog 24 #[.pointer (some ⟨R, 0, none⟩), .int .u64 (k : Nat), .bool true] w fun e w' => e = .returned (.tuple #[.int .u64 (n : Nat), .bool true, .nilIface]) ∧ w' = w := by
  have c3 := h.c3
  simp only [pubV] at c3
  have c391 := h.c391
  have c392 := h.c392
  have hne := fun w => run_neq_slice_nil_any (P := Ybaf.prog) w 27 36 none 0 0 0 0 Ybaf.underlying27
  have hle : decide ((n : Int) + (k : Int) ≤ (lm : Int)) = true := by simp; omega
  clear h
  go_enter Ybaf.func24, Ybaf.ntmps24
  go_wp2
  go_ret3
  exact ⟨rfl, rfl⟩

set_option maxRecDepth 100000 in
theorem claim_single_shut {B R S c : Nat} {gt : Option (Nat × Nat)} {fl n lm sh : Nat} {s : Nat → Int} {p : Nat → Nat} {g : Nat} {wz w0 w : World} (h : Rg B R S c none gt (word fl n) n lm sh s p g wz w0 w) (k : Nat) (hn : n < 2 ^ 32) (hk : k ≤ 128) (hlm : lm < n + k) (hf : fl < 4) (h0 : fl ≠ 0) (aC aN : Addr)
    (h1 : w.cell? ⟨1, 0, none⟩ = some (.iface 142 (.pointer (some aC)))) (h2 : w.cell? ⟨2, 0, none⟩ = some (.iface 142 (.pointer (some aN)))) :
    Calls Ybaf.prog 24 #[.pointer (some ⟨R, 0, none⟩), .int .u64 (k : Nat), .bool true] w fun e w' => e = .returned (.tuple #[.int .u64 0, .bool false, shutE fl aC aN]) ∧ w' = w := by
  have c3 := h.c3
  simp only [pubV] at c3
  have c391 := h.c391
  have c392 := h.c392
  have c135 := h.c135
  have hb := flags_ne hf (show n < 2 ^ 62 by omega) h0
  have HE : Hid (Calls Ybaf.prog 38 #[.int .u64 (word fl n : Nat)] w fun e w' => e = .returned (shutE fl aC aN) ∧ w' = w) := publishErr_word fl n aC aN w hf (by omega) h1 h2
  have hne := fun w => run_neq_slice_nil_any (P := Ybaf.prog) w 27 36 none 0 0 0 0 Ybaf.underlying27
  have hle : decide ((n : Int) + (k : Int) ≤ (lm : Int)) = false := by simp; omega
  clear h h1 h2
  go_enter Ybaf.func24, Ybaf.ntmps24
  go_wp2_with (first | (go_at_call 9; refine (load_u64 R 135 _ _ c135).mono ?_; rintro e w' ⟨rfl, rfl⟩) | (go_at_call 38; refine HE.out.mono ?_; rintro e w' ⟨rfl, rfl⟩))
  go_ret3
  exact ⟨rfl, rfl⟩

set_option maxRecDepth 100000 in
theorem claim_single_open {B R S c : Nat} {gt : Option (Nat × Nat)} {n lm sh : Nat} {s : Nat → Int} {p : Nat → Nat} {g : Nat} {wz w0 w : World} (h : Rg B R S c none gt n n lm sh s p g wz w0 w) (k : Nat) (hc : isCap c) (hn : n < 2 ^ 32) (hk1 : 1 ≤ k) (hkc : k ≤ c) (hlm : lm < n + k) (hg : g < 2 ^ 62) (hgt : gt.isSome → n + k ≤ g + c) :
    Calls Ybaf.prog 24 #[.pointer (some ⟨R, 0, none⟩), .int .u64 (k : Nat), .bool true] w fun e w' => e = .returned (.tuple #[.int .u64 (n : Nat), .bool true, .nilIface]) ∧ Rg B R S c none gt n n (newLim c gt g) sh s p g wz w0 w' := by
  have hcl := hc.le
  have c3 := h.c3
  simp only [pubV] at c3
  have c391 := h.c391
  have c392 := h.c392
  have z392 := h.free 392
  have c135 := h.c135
  have hb : bits .and .u64 (n : Nat) 13835058055282163712 = 0 := by
    have := bits_flags (fl := 0) (n := n) (by decide) (by omega)
    rw [word_zero] at this; simpa using this
  have hlim : n + k ≤ newLim c gt g := by
    cases gt with
    | none => simp only [newLim]; omega
    | some q => simp only [newLim]; exact hgt rfl
  have HFL : Hid (Calls Ybaf.prog 42 #[.pointer (some ⟨R, 0, none⟩), .int .u64 ((n + k - 1 : Nat) : Int), .bool true] w fun e w' => e = .returned (.int .u64 (newLim c gt g : Nat)) ∧ w' = w) := freeLimit_any h hc (n + k - 1) hg (fun hs => by have := hgt hs; omega)
  have hsub : ((n : Int) + (k : Int) - 1) = ((n + k - 1 : Nat) : Int) := by omega
  have hne := fun w => run_neq_slice_nil_any (P := Ybaf.prog) w 27 36 none 0 0 0 0 Ybaf.underlying27
  have hle : decide ((n : Int) + (k : Int) ≤ (lm : Int)) = false := by simp; omega
  have hl' : decide ((newLim c gt g : Int) < (n : Int) + (k : Int)) = false := by simp; omega
  have HR : Hid (Rg B R S c none gt n n (newLim c gt g) sh s p g wz w0 (w.setCell ⟨R, 392, none⟩ (.int .u64 (newLim c gt g : Nat)))) := h.setLm (newLim c gt g)
  clear h
  go_enter Ybaf.func24, Ybaf.ntmps24
  go_wp2_with (first | (go_at_call 9; refine (load_u64 R 135 _ _ c135).mono ?_; rintro e w' ⟨rfl, rfl⟩) | (go_at_call 42; refine HFL.out.mono ?_; rintro e w' ⟨rfl, rfl⟩))
  go_ret3
  exact ⟨rfl, HR.out⟩

set_option maxRecDepth 100000 in
theorem commit_single_open {B R S c : Nat} {gt : Option (Nat × Nat)} {n lm sh : Nat} {s : Nat → Int} {p : Nat → Nat} {g : Nat} {wz w0 w : World} (h : Rg B R S c none gt n n lm sh s p g wz w0 w) (k : Nat) (hn : n < 2 ^ 32) (hk : k ≤ 128) :
    Calls Ybaf.prog 25 #[.pointer (some ⟨R, 0, none⟩), .int .u64 (n : Nat), .int .u64 (k : Nat)] w fun e w' => e = .returned .nilIface ∧ Rg B R S c none gt (n + k) (n + k) lm sh s p g wz w0 w' := by
  have c3 := h.c3
  simp only [pubV] at c3
  have c135 := h.c135
  have z135 := h.free 135
  have hne := fun w => run_neq_slice_nil_any (P := Ybaf.prog) w 27 36 none 0 0 0 0 Ybaf.underlying27
  have h2 := h.setX (n + k)
  have h3 := h2.setNx (n + k)
  have d391 := h2.c391
  have z391 := h2.free 391
  have e136 := h3.c136
  have HR : Hid (Rg B R S c none gt (n + k) (n + k) lm sh s p g wz w0 ((w.setCell ⟨R, 135, none⟩ (.int .u64 ((n + k : Nat) : Int))).setCell ⟨R, 391, none⟩ (.int .u64 ((n + k : Nat) : Int)))) := h3
  clear h h2 h3
  obtain ⟨t, ht⟩ : ∃ t : Nat, t = n + k := ⟨_, rfl⟩
  have hs : ((n : Int) + (k : Int)) = ((t : Nat) : Int) := by omega
  rw [← ht] at HR d391 e136 z391 ⊢
  clear ht
  go_enter Ybaf.func25, Ybaf.ntmps25
  go_wp2_with (first | (go_at_call 21; refine (cas_hit R 135 _ _ _ c135 z135).mono ?_; rintro e w' ⟨rfl, rfl⟩) | (go_at_call 23; refine (wake_none R 7 _ e136).mono ?_; rintro e w' ⟨rfl, rfl⟩))
  go_ret
  exact ⟨rfl, HR.out⟩

set_option maxRecDepth 100000 in
theorem commit_single_shut {B R S c : Nat} {gt : Option (Nat × Nat)} {fl n nx lm sh : Nat} {s : Nat → Int} {p : Nat → Nat} {g : Nat} {wz w0 w : World} (h : Rg B R S c none gt (word fl n) nx lm sh s p g wz w0 w) (k : Nat) (hn : n < 2 ^ 32) (hk : k ≤ 128) (hf : fl < 4) (h0 : fl ≠ 0) (aC aN : Addr)
    (h1 : w.cell? ⟨1, 0, none⟩ = some (.iface 142 (.pointer (some aC)))) (h2 : w.cell? ⟨2, 0, none⟩ = some (.iface 142 (.pointer (some aN)))) :
    Calls Ybaf.prog 25 #[.pointer (some ⟨R, 0, none⟩), .int .u64 (n : Nat), .int .u64 (k : Nat)] w fun e w' => e = .returned (shutE fl aC aN) ∧ w' = w := by
  have c3 := h.c3
  simp only [pubV] at c3
  have c135 := h.c135
  have z135 := h.free 135
  have hne := fun w => run_neq_slice_nil_any (P := Ybaf.prog) w 27 36 none 0 0 0 0 Ybaf.underlying27
  have HRF : Hid (Calls Ybaf.prog 22 #[.pointer (some ⟨R, 0, none⟩)] w fun e w' => e = .returned (shutE fl aC aN) ∧ w' = w) := refused_shut R fl n aC aN w hf (by omega) h0 c135 h1 h2
  have hxn : ¬ ((word fl n : Nat) : Int) = (n : Int) := by unfold word; omega
  clear h h1 h2
  go_enter Ybaf.func25, Ybaf.ntmps25
  go_wp2_with (first | (go_at_call 21; refine (cas_miss R 135 _ _ _ _ c135 z135 hxn).mono ?_; rintro e w' ⟨rfl, rfl⟩) | (go_at_call 22; refine HRF.out.mono ?_; rintro e w' ⟨rfl, rfl⟩))
  go_ret
  exact ⟨rfl, rfl⟩
end Go.Proofs.YbulkecmmFmt
