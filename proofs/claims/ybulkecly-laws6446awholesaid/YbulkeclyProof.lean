/-
  'Rows.LawS6446AWholeSaid' proved. The frame is after the guide's shells (proof-skeleton.mjs), typed out for this row's seven parameters.
-/
import Derived.Test.YbulkeclyWalk
import Derived.ProofKit
import Derived.OpenShut
import Derived.ChangeOld
import Derived.Below
import Derived.Deep.Grids
namespace Go.Proofs.Ybulkecly.lawS6446AWhole
open Go.ChangeShapes Go.WideShapes Go.ChangeAt Go.RowKit
set_option linter.unusedVariables false

theorem own : ownKnob Yba.prog.godebug = none := by kernel_rfl
theorem laidOut : laidOutB Yba.prog = true := by kernel_rfl
theorem cells26 : Yba.prog.cellsOf 26 = 16 := by kernel_rfl

set_option maxRecDepth 100000 in
/-- The list is too long: true at once. -/
theorem law_long (a3 : Option Addr) (m c : Nat) (h used depth entry sstamp : Int) (ks : List Int) (w : World) (hm : 65536 < m) :
    Calls Yba.prog 3 #[.int .u64 h, .int .i64 used, .int .u64 depth, .slice a3 m c, .int .i64 entry, .agg (keyL ks).toArray, .int .i64 sstamp] w fun e w' => e = .returned (.bool true) ∧ Below w.heap.size w w' := by
  go_enter Yba.func3, Yba.ntmps3
  go_wp2
  go_ret
  exact ⟨rfl, (Below.refl _ _).alloc (Nat.le_refl _) _⟩

/-- A key that came in: sixteen numbers. -/
theorem open_key {H : Type} {enc : TypeId × Value → H} {W : World} {base : Nat} {v : Value} {d : DataW H} {p : List MemPlace} (hv : Value.okWide Yba.prog W .any base 26 v)
    (h : DataW.Trod enc Yba.prog W 0 (fun _ => true) true 26 v d p) : ∃ ks : List Int, ks.length = 16 ∧ v = .agg (keyL ks).toArray := by
  unfold Value.okWide at hv
  rw [Yba.underlying26] at hv
  obtain ⟨cs, rfl, hsz, _⟩ := hv
  rw [cells26] at hsz
  obtain ⟨fuel, hf⟩ := h
  obtain ⟨xs, m, _, _, hl, _, hx⟩ := DataW.trod_array Yba.underlying26 hf
  have hel : ∀ u ∈ cs.toList, Value.int .u8 (intOf u) = u := by
    intro u hu
    obtain ⟨i, hi, rfl⟩ := List.mem_iff_getElem.1 hu
    have hi16 : i < 16 := by have : cs.toList.length = 16 := by simpa using hsz
                             omega
    have h1 := hx i hi16
    rw [Yba.cells5, Nat.mul_one] at h1
    have hcs : (Value.agg cs).cells.toList = cs.toList := rfl
    rw [hcs] at h1
    rw [List.drop_eq_getElem_cons hi, List.take_succ_cons, List.take_zero] at h1
    cases hq : xs[i]? with
    | none =>
      rw [hq] at h1
      have : xs.length = 16 := by assumption
      rw [List.getElem?_eq_none_iff] at hq; omega
    | some y =>
      rw [hq] at h1
      obtain ⟨n, hn, _⟩ := DataW.trod_int Yba.underlying5 h1
      simp only [List.cons.injEq, and_true] at hn
      rw [hn]; rfl
  refine ⟨cs.toList.map intOf, by simpa using hsz, ?_⟩
  have : keyL (cs.toList.map intOf) = cs.toList := by
    unfold keyL
    rw [List.map_map]
    conv => rhs; rw [← List.map_id cs.toList]
    exact List.map_congr_left (fun u hu => hel u hu)
  rw [this]

/-! ### THE WALK -/
theorem walk (a3 : Option Addr) (m c : Nat) (h used depth entry sstamp : Int) (ks : List Int) (w : World) (hk : ks.length = 16) (h0 : 0 ≤ h) (h1 : h ≤ 18446744073709551615)
    (hfull : ∃ f : Nat → Bool, ∀ i, i < m → ∃ b o, a3 = some ⟨b, o, none⟩ ∧ b < w.heap.size ∧ w.cell? ⟨b, o + i, none⟩ = some (.bool (f i))) :
    Calls Yba.prog 3 #[.int .u64 h, .int .i64 used, .int .u64 depth, .slice a3 m c, .int .i64 entry, .agg (keyL ks).toArray, .int .i64 sstamp] w fun e w' => e = .returned (.bool true) ∧ Below w.heap.size w w' := by
  obtain ⟨f, hf⟩ := hfull
  by_cases hm : m ≤ 65536
  · exact law_main a3 m c f h used depth entry sstamp ks w hk h0 h1 hm hf
  · exact law_long a3 m c h used depth entry sstamp ks w (by omega)

/-! ### THE ROW's STEP -/
set_option maxRecDepth 100000 in
theorem lifted (os : Os) (started : os.Started) (H : Type) (enc : TypeId × Value → H) :
    ReturnsInHanded {} Yba.checked os 3 .any (Rows.lawS6446AWholeSpec.pre6 enc Yba.prog Yba.f3 Rows.lawS6446AWholeRow.domain false) (Rows.lawS6446AWholeSpec.post enc Yba.prog Yba.f3 false true false false) := by
  refine returnsInHanded_of_change (C := Yba.checked) own started (by kernel_rfl) Yba.func3
    (ChangeSpec.witness6 (enc := enc) (C := Yba.checked) false ⟨#[], #[.int .u64 0, .int .i64 0, .int .u64 0, .slice none 0 0, .int .i64 0, .agg #[.int .u8 0, .int .u8 0, .int .u8 0, .int .u8 0, .int .u8 0, .int .u8 0, .int .u8 0, .int .u8 0, .int .u8 0, .int .u8 0, .int .u8 0, .int .u8 0, .int .u8 0, .int .u8 0, .int .u8 0, .int .u8 0], .int .i64 0], []⟩ 8 (by kernel_rfl) (by kernel_rfl) (by kernel_rfl) (by kernel_rfl)) ?_
  intro W base args ds gs before hval0 hW hcnd _
  have hval : ∀ (j : Nat) t v, Yba.f3.params[j]? = some t → args[j]? = some v → Value.okWide Yba.prog W .any base t v := hval0
  have hW' := hW
  obtain ⟨p, q, hA0, hV, rfl, hfz, hnd⟩ := hW
  have hA : DataW.TrodAll enc Yba.prog W 0 (fun _ => true) true Yba.f3.params.toList args.toList ds p := hA0
  rw [Yba.params3] at hA hval
  obtain ⟨v0, vs0, d0, ds0, p0, q0, hargs, rfl, rfl, h0, r0⟩ := trodAll_cons hA
  obtain ⟨v1, vs1, d1, ds1, p1, q1, rfl, rfl, rfl, h1, r1⟩ := trodAll_cons r0
  obtain ⟨v2, vs2, d2, ds2, p2, q2, rfl, rfl, rfl, h2, r2⟩ := trodAll_cons r1
  obtain ⟨v3, vs3, d3, ds3, p3, q3, rfl, rfl, rfl, h3, r3⟩ := trodAll_cons r2
  obtain ⟨v4, vs4, d4, ds4, p4, q4, rfl, rfl, rfl, h4, r4⟩ := trodAll_cons r3
  obtain ⟨v5, vs5, d5, ds5, p5, q5, rfl, rfl, rfl, h5, r5⟩ := trodAll_cons r4
  obtain ⟨v6, vs6, d6, ds6, p6, q6, rfl, rfl, rfl, h6, r6⟩ := trodAll_cons r5
  obtain ⟨rfl, rfl, rfl⟩ := trodAll_nil r6
  obtain rfl : args = #[v0, v1, v2, v3, v4, v5, v6] := by cases args; simp_all
  obtain ⟨rfl, rfl⟩ := trodVars_none hV
  obtain ⟨a0, rfl, rfl, rfl, w0⟩ := open_int Yba.underlying22 (hval 0 22 v0 rfl rfl) h0
  obtain ⟨a1, rfl, rfl, rfl, w1⟩ := open_int Yba.underlying3 (hval 1 3 v1 rfl rfl) h1
  obtain ⟨a2, rfl, rfl, rfl, w2⟩ := open_int Yba.underlying23 (hval 2 23 v2 rfl rfl) h2
  obtain ⟨a3, len3, cap3, rfl⟩ := okWide_slice Yba.underlying24 (hval 3 24 v3 rfl rfl)
  have k3 := h3
  have lt3 : ∀ x ∈ p3, x.block < W.heap.size := by obtain ⟨m, hm⟩ := k3; exact DataW.trod_lt m _ _ _ hm
  have w3 : ∃ f : Nat → Bool, ∀ i, i < len3 → ∃ b o, a3 = some ⟨b, o, none⟩ ∧ b < W.heap.size ∧ W.cell? ⟨b, o + i, none⟩ = some (.bool (f i)) := by
    obtain ⟨fuel, hf⟩ := h3
    rcases Deep.open_bools Yba.underlying24 Yba.underlying4 (by kernel_rfl) hf with ⟨hcs, _⟩ | ⟨x, l, c, B, hcs, _, hl, hm, _, hcell⟩
    · simp [Value.cells] at hcs
      obtain ⟨rfl, rfl, rfl⟩ := hcs
      exact ⟨fun _ => false, fun i hi => absurd hi (by omega)⟩
    · simp [Value.cells] at hcs
      obtain ⟨rfl, rfl, rfl⟩ := hcs
      refine ⟨B, fun i hi => ?_⟩
      obtain ⟨b, off, spot⟩ := x
      have h1 := hcell i (by omega)
      have hspot : spot = none := by simpa [Addr.add] using World.cell?_spot (hcell 0 (by omega))
      subst hspot
      rw [Addr.add_mid] at h1
      exact ⟨b, off, rfl, World.block_lt_of_cell? W _ h1, h1⟩
  obtain ⟨a4, rfl, rfl, rfl, w4⟩ := open_int Yba.underlying3 (hval 4 3 v4 rfl rfl) h4
  have k5 := h5
  have lt5 : ∀ x ∈ p5, x.block < W.heap.size := by obtain ⟨m, hm⟩ := k5; exact DataW.trod_lt m _ _ _ hm
  obtain ⟨ks, hks, rfl⟩ := open_key (hval 5 26 v5 rfl rfl) h5
  obtain ⟨a6, rfl, rfl, rfl, w6⟩ := open_int Yba.underlying2 (hval 6 2 v6 rfl rfl) h6
  clear hA0 hval0
  have hb0 := bounds_u64 w0
  refine (walk a3 len3 cap3 a0 a1 a2 a4 a6 ks W hks (by omega) (by omega) w3).mono fun e W' ⟨he, bel⟩ => ?_
  subst he
  exact ⟨_, rfl, _, _, _, [], _, [], hW', trodAll_mk1 (shut_bool Yba.underlying4 _), (trodAll_cons_mk (shut_int Yba.underlying22 w0) (trodAll_cons_mk (shut_int Yba.underlying3 w1) (trodAll_cons_mk (shut_int Yba.underlying23 w2) (trodAll_cons_mk (Below.trod laidOut (by kernel_rfl) (of_decide_eq_true (by kernel_rfl)) k3 bel lt3) (trodAll_cons_mk (shut_int Yba.underlying3 w4) (trodAll_cons_mk (Below.trod laidOut (by kernel_rfl) (of_decide_eq_true (by kernel_rfl)) k5 bel lt5) (trodAll_cons_mk (shut_int Yba.underlying2 w6) trodAll_mk0))))))), rfl, bel.frame _, fun h => by cases h⟩

theorem over : Rows.lawS6446AWholeRow.holds Yba.pinned (OpenSpec.ofChange Rows.lawS6446AWholeSpec) :=
  OpenClaim.holds_of_wide 3 Yba.f3 rfl rfl rfl rfl rfl rfl rfl ⟨rfl, rfl, rfl, rfl, rfl⟩ rfl rfl rfl rfl rfl (by kernel_rfl) Yba.func3 (by kernel_rfl)
    (of_decide_eq_true (by kernel_rfl)) (by unfold Func.isWrapper; first | (rw [if_pos (by decide +kernel)]; kernel_rfl) | (rw [if_neg (by decide +kernel)]; exact ⟨rfl, rfl⟩))
    (fun os started H enc _ => lifted os started H enc)

/-- THE STATEMENT -/
theorem proved : Rows.LawS6446AWholeSaid := over
#print axioms proved
end Go.Proofs.Ybulkecly.lawS6446AWhole
