/-
  The law's arguments, as they came in.
-/
import Derived.Test.YbulkecmmFmtMid
import Derived.Deep.Strs
import Derived.Deep.Slices
import Derived.SizedLaws
set_option linter.unusedVariables false
set_option linter.unusedSimpArgs false
namespace Go.Proofs.YbulkecmmFmt
open Go.RowKit Go.Deep Go.Extern.Stop Go.Stop Go.Extern

theorem Ybaf.bytes9 : Ybaf.prog.bytesOf 9 = 16 := by kernel_rfl
theorem Ybaf.cells9 : Ybaf.prog.cellsOf 9 = 1 := by kernel_rfl
theorem Ybaf.cells72 : Ybaf.prog.cellsOf 72 = 1 := by kernel_rfl
theorem Ybaf.cells4 : Ybaf.prog.cellsOf 4 = 1 := by kernel_rfl
theorem Ybaf.cells74 : Ybaf.prog.cellsOf 74 = 3 := by kernel_rfl

theorem strs_open {H : Type} {enc : TypeId × Value → H} {W : World} {sp : Nat → Bool} {held : Bool} {fuel : Nat} {cs : List Value} {x : DataW H × List MemPlace} (h : DataW.trod enc Ybaf.prog W 0 sp held fuel 72 cs = some x) (hz : ∀ q ∈ x.1.weights Ybaf.prog 72, q ≤ reachBytes) :
    ∃ (a : Option Addr) (n c : Nat) (f : Nat → ByteArray), cs = [.slice a n c] ∧ Strs W a n f ∧ (∀ i, i < n → (f i).size ≤ maxLen) ∧ n * 16 ≤ reachBytes := by
  rcases open_strs Ybaf.underlying72 Ybaf.underlying9 Ybaf.cells9 h with ⟨rfl, rfl⟩ | ⟨a, len, cap, m, Sx, rfl, _, hl, hm, hmm, rfl, hc⟩
  · exact ⟨none, 0, 0, fun _ => ⟨#[]⟩, rfl, fun i hi => absurd hi (by omega), fun i hi => absurd hi (by omega), by decide⟩
  · have hlm : len ≤ m := by rw [hmm]; split <;> omega
    refine ⟨some a, len, cap, Sx, rfl, fun i hi => ?_, fun i hi => (hc i (by omega)).2, ?_⟩
    · obtain ⟨b, off, spot⟩ := a
      have hcell := (hc i (by omega)).1
      have hspot : spot = Option.none := by simpa [Addr.add] using World.cell?_spot (hc 0 (by omega)).1
      subst hspot
      exact ⟨b, off, rfl, by rw [← Addr.add_mid]; exact hcell⟩
    · have := hz ((len + (m - len)) * 16) (by simp [DataW.weights, Ybaf.underlying72, Ybaf.bytes9])
      have h2 : len * 16 ≤ (len + (m - len)) * 16 := Nat.mul_le_mul_right _ (by omega)
      omega

instance : Inhabited Pd := ⟨⟨⟨#[]⟩, none, 0, 0, fun _ => ⟨#[]⟩, false⟩⟩

theorem weightsAll_mem {H : Type} {P : Program} {e : TypeId} {d : DataW H} : ∀ {l : List (DataW H)}, d ∈ l → ∀ q ∈ d.weights P e, q ∈ DataW.weightsAll P e l
  | [], h, _, _ => by cases h
  | x :: r, h, q, hq => by
    rw [DataW.weightsAll, List.mem_append]
    rcases List.mem_cons.1 h with rfl | h
    · exact .inl hq
    · exact .inr (weightsAll_mem h q hq)

set_option maxRecDepth 100000 in
theorem pre_open {H : Type} {enc : TypeId × Value → H} {W : World} {sp : Nat → Bool} {held : Bool} {fuel : Nat} {cs : List Value} {x : DataW H × List MemPlace} (h : DataW.trod enc Ybaf.prog W 0 sp held fuel 71 cs = some x) (hz : ∀ q ∈ x.1.weights Ybaf.prog 71, q ≤ reachBytes) :
    ∃ (a : Option Addr) (N c : Nat) (P : Nat → Pd), cs = [.slice a N c] ∧ Pre W a N P ∧ ∀ i, i < N → (P i).n * 16 ≤ reachBytes ∧ (P i).name.size ≤ maxLen := by
  rcases open_slice Ybaf.underlying71 h with ⟨rfl, rfl⟩ | ⟨a, len, cap, m, n, D, Pl, rfl, _, hl, hm, hmm, rfl, hel⟩
  · exact ⟨none, 0, 0, fun _ => default, rfl, fun i hi => absurd hi (by omega), fun i hi => absurd hi (by omega)⟩
  · have hlm : len ≤ m := by rw [hmm]; split <;> omega
    have hspot0 : 0 < len → a.spot = Option.none := fun h0 => by
      obtain ⟨cs', hcs, _⟩ := hel 0 (by omega)
      rw [Ybaf.cells74] at hcs
      obtain ⟨_, hln, hcell⟩ := World.cells?_some hcs
      have k0 := hcell 0 (by omega)
      rw [List.getElem?_eq_getElem (by omega)] at k0
      obtain ⟨b, off, spot⟩ := a
      simpa [Addr.add] using World.cell?_spot k0
    have each : ∀ i, i < len → ∃ p : Pd, (∃ b o, a = ⟨b, o, none⟩ ∧ W.cell? ⟨b, o + i * 3, none⟩ = some (.string p.name) ∧ W.cell? ⟨b, o + i * 3 + 1, none⟩ = some (.slice p.a p.n p.c) ∧ W.cell? ⟨b, o + i * 3 + 2, none⟩ = some (.bool p.node) ∧ Strs W p.a p.n p.f) ∧ p.n * 16 ≤ reachBytes ∧ p.name.size ≤ maxLen := by
      intro i hi
      obtain ⟨cs', hcs, htr⟩ := hel i (by omega)
      rw [Ybaf.cells74] at hcs
      obtain ⟨y0, y1, y2, n', hD, hlen, h0, h1, h2⟩ := trod_struct3 Ybaf.underlying74 htr
      simp only [Prod.mk.injEq] at hD
      obtain ⟨_, hln, hcell⟩ := World.cells?_some hcs
      obtain ⟨c0, c1, c2, rfl⟩ : ∃ c0 c1 c2, cs' = [c0, c1, c2] := by
        match cs', hln with
        | [c0, c1, c2], _ => exact ⟨c0, c1, c2, rfl⟩
      simp only [Ybaf.cells9, Ybaf.cells72, Ybaf.cells4, List.drop_zero, List.drop_succ_cons, List.take_succ_cons, List.take_zero] at h0 h1 h2
      obtain ⟨s, hs, _, hsz⟩ := DataW.trod_string Ybaf.underlying9 h0
      obtain ⟨nd, hnd, _⟩ := DataW.trod_bool Ybaf.underlying4 h2
      have hw : ∀ q ∈ y1.1.weights Ybaf.prog 72, q ≤ reachBytes := fun q hq => by
        refine hz q ?_
        simp only [DataW.weights, Ybaf.underlying71, List.mem_cons, List.mem_append]
        refine .inr (.inl (weightsAll_mem (d := D i) (List.mem_map.2 ⟨i, List.mem_range.2 hi, rfl⟩) q ?_))
        rw [hD.1]
        simp only [DataW.weights, Ybaf.underlying74, DataW.weightsEach, List.map_cons, List.mem_append]
        exact .inr (.inl hq)
      obtain ⟨da, dn, dc, f, he, hst, hfs, hdn⟩ := strs_open h1 hw
      cases hs
      cases hnd
      cases he
      obtain ⟨b, off, spot⟩ := a
      have k0 := hcell 0 (by omega)
      have k1 := hcell 1 (by omega)
      have k2 := hcell 2 (by omega)
      have hspot : spot = Option.none := hspot0 (by omega)
      subst hspot
      rw [Addr.add_mid, Addr.add_mid] at k0 k1 k2
      exact ⟨⟨s, da, dn, dc, f, nd⟩, ⟨b, off, rfl, k0, k1, k2, hst⟩, hdn, hsz⟩
    obtain ⟨P, hP⟩ := choose_lt each
    refine ⟨some a, len, cap, P, rfl, fun i hi => ?_, fun i hi => (hP i hi).2⟩
    obtain ⟨b, o, rfl, h1⟩ := (hP i hi).1
    exact ⟨b, o, rfl, h1⟩
end Go.Proofs.YbulkecmmFmt
