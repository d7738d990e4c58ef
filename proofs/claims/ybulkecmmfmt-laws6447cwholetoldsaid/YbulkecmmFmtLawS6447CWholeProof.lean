/-
  'Rows.LawS6447CWholeToldSaid' proved: the walk (YbulkecmmFmtMain.lean), the arguments as they came in (YbulkecmmFmtOpen.lean), the two sentinels off 'laid', fmt's text told (its content does not matter here: what is asked is which sentinel the error wraps). The frame is after the guide's worked Sentry and Port.
-/
import Derived.Test.YbulkecmmFmtCards
import Derived.Test.YbulkecmmFmtTie
import Derived.Test.YbulkecmmFmtMain
import Derived.Test.YbulkecmmFmtOpen
import Derived.ProofKit
import Derived.OpenShut
import Derived.ShutString
import Derived.Carry
import Derived.Stop.JoinedAt
import Derived.Stop.Texts
import Derived.Stop.JoinedTold
import Derived.Stop.LaidErr
import Derived.Stop.LaidTwo
import Derived.SevenTiedAt
set_option linter.unusedVariables false
set_option linter.unusedSimpArgs false
namespace Go.Proofs.YbulkecmmFmt.lawS6447CWhole
open Go.ChangeShapes Go.WideShapes Go.ChangeAt Go.RowKit Go.Kit
open Go.ChangeMaps (open_string shut_string)
open Go.Extern.Stop Go.Stop Go.Extern

theorem own : ownKnob Ybaf.prog.godebug = none := by kernel_rfl
theorem laidOut : laidOutB Ybaf.pinned.checked.prog = true := by kernel_rfl
theorem stops : Ybaf.pinned.checked.prog.stops = ["fmt.errorf"] := by kernel_rfl
theorem stopKnobs : Ybaf.pinned.checked.prog.stopKnobs = [] := by kernel_rfl
theorem quiet (os : Os) : Stop.quiet Ybaf.pinned.checked.prog os := by
  intro k hk
  rw [stopKnobs] at hk
  cases hk
theorem gF : Ybaf.prog.globalNamed "example.com/slipring/slipring/graph.ErrFrozen" = some 3 := by kernel_rfl
theorem gD : Ybaf.prog.globalNamed "example.com/slipring/slipring/graph.ErrDuplicate" = some 4 := by kernel_rfl
theorem gFType : (Ybaf.prog.globals[3]?).map (·.type) = some 65 := by kernel_rfl
theorem gDType : (Ybaf.prog.globals[4]?).map (·.type) = some 65 := by kernel_rfl
theorem cells144 : Ybaf.prog.cellsOf 144 = 1 := by kernel_rfl
theorem star : "*" ++ "errors.errorString" = "*errors.errorString" := by decide
theorem row142 (u : TypeId) (h : Ybaf.prog.typeName? 3 u = some "*errors.errorString") : u = 142 :=
  typeName_ptr_named (nm := "errors.errorString") (by rw [star]; kernel_rfl) (by kernel_rfl) (by decide) u (by rw [star]; exact h)

theorem var_below {P : Program} {W W' : World} {n : String} {cs : Array Value} (hb : Below W.heap.size W W') (h : W.var? P n = some cs) : W'.var? P n = some cs := by
  unfold World.var? at h ⊢
  cases hg : P.globalNamed n with
  | none => rw [hg] at h; cases h
  | some g =>
    rw [hg] at h
    simp only [Option.bind_some] at h ⊢
    by_cases hl : g < W.heap.size
    · rw [hb.block g hl]; exact h
    · rw [Array.getElem?_eq_none (by omega)] at h; cases h

abbrev dupS : ByteArray := { data := #[103, 114, 97, 112, 104, 58, 32, 100, 101, 99, 108, 97, 114, 101, 100, 32, 116, 119, 105, 99, 101] }
abbrev frozenS : ByteArray := { data := #[103, 114, 97, 112, 104, 58, 32, 103, 114, 97, 112, 104, 32, 105, 115, 32, 102, 114, 111, 122, 101, 110] }
noncomputable def low : Nat := (World.holding Ybaf.prog default ⟨#[], #[], []⟩).heap.size
noncomputable def laidWorld (os : Os) : World :=
  let w0 := World.holding Ybaf.prog os ⟨#[.cells #[.string dupS] 144, .cells #[.string frozenS] 144], #[], []⟩
  { w0 with heap := (w0.heap.modify 4 fun
      | .cells _ t frozen => .cells #[.iface 142 (.pointer (some ⟨low, 0, none⟩))] t frozen
      | o => o).modify 3 fun
      | .cells _ t frozen => .cells #[.iface 142 (.pointer (some ⟨low + 1, 0, none⟩))] t frozen
      | o => o }
theorem laid_met (os : Os) (args : Array Value) : laidMet Ybaf.prog Rows.lawS6447CWholeRow.laid ((laidWorld os).forCall (fun _ _ => 0) ⟨#[], args, []⟩).memory :=
  laidMet_of_run (ps := [.cell 4 0, .cell low 0, .cell 3 0, .cell (low + 1) 0]) 8 (by kernel_rfl) (by kernel_rfl) (by kernel_rfl)

set_option maxRecDepth 100000 in
theorem lifted (os : Os) (started : os.Started) (H : Type) (enc : TypeId × Value → H) :
    ReturnsInTold none {} Ybaf.checked os 4 .any Input.okWide ((OpenSpec.ofChange Rows.lawS6447CWholeSpec).preRow enc Ybaf.prog Ybaf.f4 Rows.lawS6447CWholeRow.domain false Rows.lawS6447CWholeRow.laid) (fun F => ((OpenSpec.ofChange Rows.lawS6447CWholeSpec).at F).post enc Ybaf.prog Ybaf.f4 false true false false) (aloneAtReturn Ybaf.prog) nothingAlways := by
  refine returnsInTold_of_row (C := Ybaf.checked) (s := OpenSpec.ofChange Rows.lawS6447CWholeSpec) (by kernel_rfl) own started (by kernel_rfl) Ybaf.func4
    (OpenSpec.witness_stopped_at (enc := enc) (C := Ybaf.checked) false (laidWorld os) #[.slice Option.none 0 0, .bool false, .string ⟨#[]⟩, .slice Option.none 0 0, .bool false] rfl (by kernel_rfl) (by kernel_rfl) (by kernel_rfl)
      (OpenSpec.preRow_of_B rfl 8 (by kernel_rfl) (by kernel_rfl) (laid_met os _))) ?_
  intro F W base args ds gs before _ hF hval0 hW _ _ hsz0 hL _
  have hval : ∀ (j : Nat) t v, Ybaf.f4.params[j]? = some t → args[j]? = some v → Value.okWide Ybaf.prog W .any base t v := hval0
  have hW' := hW
  obtain ⟨p, q, hA0, hV0, rfl, hfz, hnd⟩ := hW
  have hA : DataW.TrodAll enc Ybaf.prog W 0 (fun _ => true) true Ybaf.f4.params.toList args.toList ds p := hA0
  have hV : DataW.TrodVars enc Ybaf.prog W (fun _ => true) ["example.com/slipring/slipring/graph.ErrFrozen", "example.com/slipring/slipring/graph.ErrDuplicate"] gs q := hV0
  have hsz : (DataW.weightsEach Ybaf.prog (Ybaf.f4.params.toList ++ (OpenSpec.ofChange Rows.lawS6447CWholeSpec).bare.plain.varTypes Ybaf.prog) (ds ++ gs)).all (· ≤ reachBytes) = true := hsz0
  rw [Ybaf.params4] at hA hval hsz
  obtain ⟨v0, vs0, d0, ds0, p0, q0, hargs, rfl, rfl, h0, r0⟩ := trodAll_cons hA
  obtain ⟨v1, vs1, d1, ds1, p1, q1, rfl, rfl, rfl, h1, r1⟩ := trodAll_cons r0
  obtain ⟨v2, vs2, d2, ds2, p2, q2, rfl, rfl, rfl, h2, r2⟩ := trodAll_cons r1
  obtain ⟨v3, vs3, d3, ds3, p3, q3, rfl, rfl, rfl, h3, r3⟩ := trodAll_cons r2
  obtain ⟨v4, vs4, d4, ds4, p4, q4, rfl, rfl, rfl, h4, r4⟩ := trodAll_cons r3
  obtain ⟨rfl, rfl, rfl⟩ := trodAll_nil r4
  obtain rfl : args = #[v0, v1, v2, v3, v4] := by cases args; simp_all
  have wt : ∀ (j : Nat) (t : TypeId) (d : DataW H), ([71, 4, 9, 72, 4] ++ (OpenSpec.ofChange Rows.lawS6447CWholeSpec).bare.plain.varTypes Ybaf.prog : List TypeId)[j]? = some t → ([d0, d1, d2, d3, d4] ++ gs)[j]? = some d → ∀ n ∈ d.weights Ybaf.prog t, n ≤ reachBytes := fun j t d e1 e2 n hn => by
    simpa using List.all_eq_true.1 hsz n (DataW.weights_mem_each e1 e2 n hn)
  -- the two slices
  obtain ⟨b0, len0, cap0, rfl⟩ := okWide_slice Ybaf.underlying71 (hval 0 71 v0 rfl rfl)
  have k0 := h0
  have lt0 : ∀ x ∈ p0, x.block < W.heap.size := by obtain ⟨m, hm⟩ := k0; exact DataW.trod_lt m _ _ _ hm
  obtain ⟨PP, hpre, hpn⟩ : ∃ PP, Pre W b0 len0 PP ∧ ∀ i, i < len0 → (PP i).n * 16 ≤ reachBytes ∧ (PP i).name.size ≤ maxLen := by
    obtain ⟨fuel, hf⟩ := h0
    obtain ⟨a, N, c, PP, hcs, h1, h2⟩ := pre_open hf (wt 0 71 d0 rfl rfl)
    simp [Value.cells] at hcs
    obtain ⟨rfl, rfl, rfl⟩ := hcs
    exact ⟨PP, h1, h2⟩
  obtain ⟨fz, rfl, rfl, rfl⟩ := open_bool Ybaf.underlying4 (hval 1 4 v1 rfl rfl) h1
  obtain ⟨nm, rfl, rfl, rfl, wnm⟩ := open_string Ybaf.underlying9 (hval 2 9 v2 rfl rfl) h2
  obtain ⟨b3, len3, cap3, rfl⟩ := okWide_slice Ybaf.underlying72 (hval 3 72 v3 rfl rfl)
  have k3 := h3
  have lt3 : ∀ x ∈ p3, x.block < W.heap.size := by obtain ⟨m, hm⟩ := k3; exact DataW.trod_lt m _ _ _ hm
  obtain ⟨ff, hst, hfs⟩ : ∃ ff, Strs W b3 len3 ff ∧ ∀ i, i < len3 → (ff i).size ≤ maxLen := by
    obtain ⟨fuel, hf⟩ := h3
    obtain ⟨a, N, c, ff, hcs, h1, h2, _⟩ := strs_open hf (wt 3 72 d3 rfl rfl)
    simp [Value.cells] at hcs
    obtain ⟨rfl, rfl, rfl⟩ := hcs
    exact ⟨ff, h1, h2⟩
  obtain ⟨nd, rfl, rfl, rfl⟩ := open_bool Ybaf.underlying4 (hval 4 4 v4 rfl rfl) h4
  -- the sentinels
  obtain ⟨aD, aF, sD, sF, cD, cF, tD, tF, hvD, hvF, hcD, hsD, hzD, hcF, hsF, hzF, hne, hbD, hbF⟩ := laid_sentinels2 hL gD gDType gF gFType Ybaf.underlying65 row142 Ybaf.underlying142 Ybaf.underlying144 rfl rfl Ybaf.underlying9 cells144 Ybaf.cells9
  have vr : ∀ {X : World}, X.var? Ybaf.prog "example.com/slipring/slipring/graph.ErrFrozen" = some #[.iface 142 (.pointer (some aF))] → X.var? Ybaf.prog "example.com/slipring/slipring/graph.ErrDuplicate" = some #[.iface 142 (.pointer (some aD))] → ∀ sp : Nat → Bool,
      DataW.TrodVars enc Ybaf.prog X sp ["example.com/slipring/slipring/graph.ErrFrozen", "example.com/slipring/slipring/graph.ErrDuplicate"] [tok enc (.iface 142 (.pointer (some aF))), tok enc (.iface 142 (.pointer (some aD)))] [.cell 3 0, .cell 4 0] :=
    fun x0 x1 sp => vars_read2 enc gF gFType Ybaf.underlying65 x0 trivial gD gDType Ybaf.underlying65 x1 trivial sp
  obtain ⟨rfl, rfl⟩ := hV.unique (vr hvF hvD _)
  have hgF : W.cell? ⟨3, 0, Option.none⟩ = some (.iface 142 (.pointer (some aF))) := by simpa using World.var?_cell gF hvF 0
  have hgD : W.cell? ⟨4, 0, Option.none⟩ = some (.iface 142 (.pointer (some aD))) := by simpa using World.var?_cell gD hvD 0
  have hSent : Sent aF aD W := ⟨hgF, hgD, ⟨cF, tF, hbF⟩, ⟨cD, tD, hbD⟩, ⟨sD, hcD⟩, Ne.symm hne⟩
  have h5 : 5 ≤ W.heap.size := by
    have : 4 < W.heap.size := World.block_lt_of_cell? W _ hgD
    omega
  clear hA0 hV0 hval0
  have walk : Calls Ybaf.prog 4 #[.slice b0 len0 cap0, .bool fz, .string nm, .slice b3 len3 cap3, .bool nd] W fun e w' => e = .returned (.bool true) ∧ Below W.heap.size W w' := by
    by_cases hl : len0 ≤ 1024 ∧ len3 ≤ 1024
    · exact law_c F.told len0 cap0 len3 cap3 b0 b3 fz nd nm PP ff W hF hl.1 hl.2 hpre (fun i hi => ⟨Nat.le_trans (hpn i hi).1 (by decide), (hpn i hi).2⟩) hst aF aD hSent h5 wnm hfs
    · exact law_long len0 cap0 len3 cap3 b0 b3 fz nd nm W hl
  refine walk.mono fun e W' ⟨he, bel⟩ => ?_
  subst he
  exact ⟨_, rfl, _, _, _, [], _, [.cell 3 0, .cell 4 0], hW', trodAll_mk1 (shut_bool Ybaf.underlying4 _), (trodAll_cons_mk (Below.trod laidOut (by kernel_rfl) (of_decide_eq_true (by kernel_rfl)) k0 bel lt0) (trodAll_cons_mk (shut_bool Ybaf.underlying4 fz) (trodAll_cons_mk (shut_string Ybaf.underlying9 wnm) (trodAll_cons_mk (Below.trod laidOut (by kernel_rfl) (of_decide_eq_true (by kernel_rfl)) k3 bel lt3) (trodAll_cons_mk (shut_bool Ybaf.underlying4 nd) trodAll_mk0))))), vr (var_below bel hvF) (var_below bel hvD) _, bel.frame _, fun h => by cases h⟩

theorem proved : Rows.LawS6447CWholeToldSaid :=
  Claim7.holds_of_told_tied_any_at .later 4 Ybaf.f4 "fmt.errorf" [] [] _ _ _ _ _ (by kernel_rfl) rfl rfl rfl laidOut (by kernel_rfl) rfl ⟨rfl, rfl, rfl, rfl, rfl, rfl, rfl⟩ rfl rfl (by kernel_rfl) (by kernel_rfl) Ybaf.func4 (by kernel_rfl)
    (of_decide_eq_true (by kernel_rfl)) (of_decide_eq_true (by kernel_rfl)) stops.symm rfl stopKnobs.symm (by kernel_rfl)
    (by kernel_rfl) (by kernel_rfl) (by kernel_rfl) (by kernel_rfl) (by kernel_rfl) (by kernel_rfl) (by kernel_rfl) (by kernel_rfl) (by kernel_rfl) rfl (by kernel_rfl) rfl rfl
    rfl rfl
    rfl (by kernel_rfl) (by kernel_rfl) (by kernel_rfl) (by decide) (by kernel_rfl) lawS6447CWhole_row_tie
    (OpenClaim.moreEntering_of (by kernel_rfl) (by kernel_rfl) (by kernel_rfl) (by kernel_rfl) (by kernel_rfl) (by kernel_rfl) (by kernel_rfl) (by kernel_rfl) (by kernel_rfl) (by kernel_rfl))
    ⟨_, WideRow.started_initial, quiet _⟩
    (fun os started _ H enc _ => lifted os started H enc)
end Go.Proofs.YbulkecmmFmt.lawS6447CWhole
