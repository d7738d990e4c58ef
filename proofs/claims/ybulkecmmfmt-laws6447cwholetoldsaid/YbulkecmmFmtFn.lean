/-
  zzs6447cfn; the NodeFunc's value; the prior declarations.
-/
import Derived.Test.YbulkecmmFmtDec3
import Derived.Deep.LoopGhost
set_option linter.unusedVariables false
set_option linter.unusedSimpArgs false
namespace Go.Proofs.YbulkecmmFmt
open Go.RowKit

/-- The stand-in NodeFunc, or nil. -/
def fnv (b : Bool) : Value := if b then .func (.func 30) #[] #[] else .nilFunc
theorem fnv_one (b : Bool) : (fnv b).oneCell' = true := by cases b <;> rfl
theorem neq87 (b : Bool) (w : World) : (binOp .neq 87 (fnv b) .nilFunc).run Ybaf.prog w = .ok (.bool b) w := by cases b <;> kernel_rfl

theorem guard87 (x : Operand) (b : Bool) (w : World) : (eqGuard .neq 87 x (.const .nilFunc) (fnv b) .nilFunc).run Ybaf.prog w = .ok () w := by cases b <;> kernel_rfl

set_option maxRecDepth 100000 in
theorem fn_any (w : World) : Calls Ybaf.prog 12 #[] w fun e w' => e = .returned (fnv true) ∧ w' = w := by
  go_enter Ybaf.func12, Ybaf.ntmps12
  go_wp2
  go_ret
  exact ⟨rfl, rfl⟩

theorem run_store_fnv (a : Addr) (b : Bool) (w : World) {u : Value} (hc : w.cell? a = some u) (hz : w.frozen? a = false) : (store a (fnv b)).run Ybaf.prog w = .ok () (w.setCell a (fnv b)) := by
  rw [run_store Ybaf.prog w a (fnv b) _ (fnv_one b)]
  simp [hc, hz]

theorem below_drewN {X : Nat} {w w' : World} (h : Below X w w') (q : Nat) : Below X w (w'.drewN q) := ⟨h.os, h.tape, h.output, h.size, h.block⟩

/-- One declaration as it came in. -/
structure Pd where
  name : ByteArray
  a : Option Addr
  n : Nat
  c : Nat
  f : Nat → ByteArray
  node : Bool

/-- 'pre' in memory. -/
def Pre (w : World) (pa : Option Addr) (N : Nat) (P : Nat → Pd) : Prop := ∀ i, i < N → ∃ b o, pa = some ⟨b, o, none⟩ ∧ w.cell? ⟨b, o + i * 3, none⟩ = some (.string (P i).name) ∧
  w.cell? ⟨b, o + i * 3 + 1, none⟩ = some (.slice (P i).a (P i).n (P i).c) ∧ w.cell? ⟨b, o + i * 3 + 2, none⟩ = some (.bool (P i).node) ∧ Strs w (P i).a (P i).n (P i).f

theorem Strs.below {w w' : World} {a : Option Addr} {n X : Nat} {f : Nat → ByteArray} (h : Strs w a n f) (hb : Below X w w') (hX : w.heap.size ≤ X) : Strs w' a n f := fun i hi => by
  obtain ⟨b, o, rfl, hc⟩ := h i hi
  exact ⟨b, o, rfl, (hb.cell (by show b < X; exact Nat.lt_of_lt_of_le (World.block_lt_of_cell? w _ hc) hX)).trans hc⟩

/-- What is known of the k-th declaration that was laid in. -/
structure Laid (w : World) (va ka : Option Addr) (κ : Nat → Nat) (P : Nat → Pd) (k : Nat) (db kb : Nat) (da : Option Addr) (dc : Nat) : Prop where
  va : va = some ⟨db, 0, none⟩
  ka : ka = some ⟨kb, 0, none⟩
  kc : w.cell? ⟨kb, k, none⟩ = some (.int .i64 (κ k))
  d0 : w.cell? ⟨db, k * 3, none⟩ = some (.string (P (κ k)).name)
  d1 : w.cell? ⟨db, k * 3 + 1, none⟩ = some (.slice da (P (κ k)).n dc)
  d2 : w.cell? ⟨db, k * 3 + 2, none⟩ = some (fnv (P (κ k)).node)
  st : Strs w da (P (κ k)).n (P (κ k)).f

attribute [local go_sem] neq87 guard87 run_store_fnv

set_option maxRecDepth 100000 in
set_option maxHeartbeats 1000000 in
theorem prior_any (g N pc L vc K kc : Nat) (s : Int) (pa va ka : Option Addr) (mo : Option Nat) (po : Option Addr) (P : Nat → Pd) (κ : Nat → Nat) (r : List ByteArray) (w : World)
    (hb : w.heap[g]? = some (.cells (gCells s (.slice va L vc) mo po) 83 (0, 0))) (hKL : K ≤ L) (hL : L ≤ 2048) (hN : N ≤ 1024) (hκ : ∀ k, k < K → κ k < N) (hP : Pre w pa N P) (hPn : ∀ i, i < N → (P i).n ≤ 65536 ∧ (P i).name.size ≤ maxLen)
    (hi : Idx w mo r) (hnd : r.Nodup) (hr : ∀ k, k < K → r.reverse[k]? = some (P (κ k)).name)
    (hD : ∀ k, k < K → ∃ db kb da dc, Laid w va ka κ P k db kb da dc) :
    Calls Ybaf.prog 17 #[.pointer (some ⟨g, 0, none⟩), .slice pa N pc, .slice ka K kc] w fun e w' => e = .returned (.bool true) ∧ Below w.heap.size w w' := by
  have hgl := lt_of_heap hb
  have hc2 : w.cell? ⟨g, 2, none⟩ = some (.slice va L vc) := by rw [cell_of_row _ _ _ _ _ _ hb]; rfl
  have hc3 : w.cell? ⟨g, 3, none⟩ = some (.map mo) := by rw [cell_of_row _ _ _ _ _ _ hb]; rfl
  have hLK : decide (L < K) = false := by simp; omega
  go_enter Ybaf.func17, Ybaf.ntmps17
  go_wp2
  go_loopw [23] (fun i wr => ∃ k : Nat, k ≤ K ∧ i = .int .i64 k ∧ Below w.heap.size w wr) (fun i _ => K - (intOf i).toNat)
  case atStart => exact ⟨0, Nat.zero_le _, rfl, Below.refl _ _⟩
  case round =>
    obtain ⟨k, hk, rfl, hbl⟩ := hrel
    by_cases hkK : k < K
    · obtain ⟨db, kb, da, dc, HL⟩ := hD k hkK
      obtain ⟨b, o, rfl, p0, p1, p2, pst⟩ := hP _ (hκ k hkK)
      obtain ⟨hn1, hn2⟩ := hPn _ (hκ k hkK)
      have hκN := hκ k hkK
      have hκN' : (κ k : Int) < (N : Int) := by omega
      have hkL' : (k : Int) < (L : Int) := by omega
      have hrk := hr k hkK
      obtain rfl := HL.va
      obtain rfl := HL.ka
      have up : ∀ {ad : Addr} {v : Value}, w.cell? ad = some v → wr.cell? ad = some v := fun {ad v} h => (hbl.cell (by exact World.block_lt_of_cell? w _ h)).trans h
      have k0 := up HL.kc
      have d0 := up HL.d0
      have d1 := up HL.d1
      have d2 := up HL.d2
      have q0 := up p0
      have q1 := up p1
      have q2 := up p2
      have c2 := up hc2
      have c3 := up hc3
      have hix : Idx wr mo r := hi.same (fun mb e => by subst e; exact hbl.block mb hi.lt)
      have hst1 : Strs wr da (P (κ k)).n (P (κ k)).f := HL.st.below hbl (Nat.le_refl _)
      have hst2 : Strs wr (P (κ k)).a (P (κ k)).n (P (κ k)).f := pst.below hbl (Nat.le_refl _)
      have hbs := hbl.size
      have hglr : g < wr.heap.size := by omega
      clear up HL pst p0 p1 p2 hP hD hPn hκ hr hb hc2 hc3
      generalize P (κ k) = p at *
      obtain ⟨nm, pda, n, pdc, pf, nd⟩ := p
      dsimp only at *
      generalize κ k = m at *
      have HST1 : Hid (Strs wr da n pf) := hst1
      have HST2 : Hid (Strs wr pda n pf) := hst2
      have HIX : Hid (Idx wr mo r) := hix
      have HB : Hid (Below w.heap.size w wr) := hbl
      clear hst1 hst2 hix hbl
      have hone := fnv_one nd
      have hbb : b < wr.heap.size := World.block_lt_of_cell? wr _ q0
      go_wp2_with fail
      refine (equal_true da pda n dc pdc pf _ (by omega) ?he1 ?he2).mono ?_
      case he1 => exact HST1.out.below (((Below.refl wr.heap.size wr).alloc (Nat.le_refl _) _).alloc (by simp) _) (Nat.le_refl _)
      case he2 => exact HST2.out.below (((Below.refl wr.heap.size wr).alloc (Nat.le_refl _) _).alloc (by simp) _) (Nat.le_refl _)
      rintro e w5 ⟨rfl, q, hw5⟩
      have hb5 : Below wr.heap.size wr w5 := by rw [hw5]; exact below_drewN (((Below.refl wr.heap.size wr).alloc (Nat.le_refl _) _).alloc (by simp) _) q
      have z3 : w5.cell? ⟨g, 3, none⟩ = some (.map mo) := (hb5.cell (by exact hglr)).trans c3
      have y2 : w5.cell? ⟨wr.heap.size, 2, none⟩ = some (fnv nd) := by rw [hw5, World.cell?_drewN]; simp
      have y0 : w5.cell? ⟨wr.heap.size + 1, 0, none⟩ = some (.string nm) := by rw [hw5, World.cell?_drewN]; simp
      have y1 : w5.cell? ⟨wr.heap.size + 1, 2, none⟩ = some (.bool nd) := by rw [hw5, World.cell?_drewN]; simp
      have hix5 : Idx w5.drew mo r := HIX.out.same (fun mb e => by subst e; exact hb5.block mb HIX.out.lt)
      obtain ⟨a5, hlk, ha5⟩ := hix5.look nm hn2
      obtain rfl := ha5 k hnd hrk
      have hmm : memB nm r = true := memB_iff.2 (by have := List.mem_of_getElem? hrk; simpa using this)
      rw [hmm] at hlk
      have HB5 : Hid (Below w.heap.size w w5) := HB.out.trans (hb5.mono HB.out.size)
      clear hw5 hb5 hix5 ha5 hmm
      go_wp2_with fail
      go_region
      clear hlk
      go_wp2
      go_roundw
      case rel => exact ⟨k + 1, by omega, by go_num, HB5.out.drew⟩
      case measure => simp [intOf]; omega
    · go_wp2
      go_ret
      exact ⟨rfl, hbl⟩


attribute [local go_sem] eql77

set_option maxRecDepth 100000 in
set_option maxHeartbeats 400000 in
theorem unchanged_any (g gv nv L vc nc : Nat) (s : Int) (va na : Option Addr) (mo : Option Nat) (po : Option Addr) (r : List ByteArray) (w : World)
    (hb : w.heap[g]? = some (.cells (gCells s (.slice va L vc) mo po) 83 (0, 0))) (hi : Idx w mo r) (hnd : r.Nodup) (hL : r.length = L) (hL' : L ≤ 2048) (h0 : L = 0 → mo = none)
    (hg : w.cell? ⟨gv, 0, none⟩ = some (.pointer (some ⟨g, 0, none⟩))) (hn : w.cell? ⟨nv, 0, none⟩ = some (.slice na L nc)) :
    Calls Ybaf.prog 18 #[.pointer (some ⟨gv, 0, none⟩), .pointer (some ⟨nv, 0, none⟩)] w fun e w' => e = .returned (.bool true) ∧ ∃ q, w' = w.drewN q := by
  have hc2 : w.cell? ⟨g, 2, none⟩ = some (.slice va L vc) := by rw [cell_of_row _ _ _ _ _ _ hb]; rfl
  have hc3 : w.cell? ⟨g, 3, none⟩ = some (.map mo) := by rw [cell_of_row _ _ _ _ _ _ hb]; rfl
  have hlen := fun ty => (hi.drew.drew).len hnd ty
  rw [hL] at hlen
  clear hb hi
  by_cases hz : L = 0
  · subst hz
    obtain rfl := h0 rfl
    go_enter Ybaf.func18, Ybaf.ntmps18
    go_wp2_with fail
    go_quiet (fail)
    go_wp2
    go_ret
    exact ⟨rfl, _, rfl⟩
  · have hz' : ((L : Int) == 0) = false := by simp; omega
    go_enter Ybaf.func18, Ybaf.ntmps18
    go_wp2_with fail
    go_region
    go_wp2_with fail
    go_region
    go_wp2
    go_ret
    exact ⟨rfl, 2, rfl⟩
end Go.Proofs.YbulkecmmFmt
