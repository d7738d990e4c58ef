/-
  'Rows.LawS6447BWholeToldSaid' proved: the walk (YbulkecmmFmtLawB.lean), the arguments as they came in, the three sentinels off 'laid', fmt's text told (its content does not matter here: what is asked is which sentinel the error wraps). The frame is after the guide's worked Sentry and Port.
-/
import Derived.Test.YbulkecmmFmtCards
import Derived.Test.YbulkecmmFmtTie
import Derived.Test.YbulkecmmFmtLawB
import Derived.ProofKit
import Derived.OpenShut
import Derived.OpenVars
import Derived.ShutString
import Derived.Carry
import Derived.Stop.JoinedAt
import Derived.Stop.Texts
import Derived.Stop.JoinedTold
import Derived.Stop.LaidErr
import Derived.SevenTiedAt
set_option linter.unusedVariables false
set_option linter.unusedSimpArgs false
namespace Go.Proofs.YbulkecmmFmt.lawS6447BWhole
open Go.ChangeShapes Go.WideShapes Go.ChangeAt Go.RowKit Go.Kit
open Go.Extern.Stop Go.Stop Go.Extern

theorem own : ownKnob Ybaf.prog.godebug = none := by kernel_rfl
theorem laidOut : laidOutB Ybaf.pinned.checked.prog = true := by kernel_rfl
theorem stops : Ybaf.pinned.checked.prog.stops = ["fmt.errorf"] := by kernel_rfl
theorem stopKnobs : Ybaf.pinned.checked.prog.stopKnobs = [] := by kernel_rfl
theorem quiet (os : Os) : Stop.quiet Ybaf.pinned.checked.prog os := by
  intro k hk
  rw [stopKnobs] at hk
  cases hk
theorem gB : Ybaf.prog.globalNamed "example.com/slipring/slipring.ErrBatchSize" = some 0 := by kernel_rfl
theorem gC : Ybaf.prog.globalNamed "example.com/slipring/slipring.ErrClosed" = some 1 := by kernel_rfl
theorem gN : Ybaf.prog.globalNamed "example.com/slipring/slipring.ErrNotStarted" = some 2 := by kernel_rfl
theorem gBType : (Ybaf.prog.globals[0]?).map (·.type) = some 65 := by kernel_rfl
theorem gCType : (Ybaf.prog.globals[1]?).map (·.type) = some 65 := by kernel_rfl
theorem gNType : (Ybaf.prog.globals[2]?).map (·.type) = some 65 := by kernel_rfl
theorem cells144 : Ybaf.prog.cellsOf 144 = 1 := by kernel_rfl
theorem cells9 : Ybaf.prog.cellsOf 9 = 1 := by kernel_rfl
theorem bytes3 : Ybaf.prog.bytesOf 3 = 8 := by kernel_rfl
theorem star : "*" ++ "errors.errorString" = "*errors.errorString" := by decide
theorem row142 (u : TypeId) (h : Ybaf.prog.typeName? 3 u = some "*errors.errorString") : u = 142 :=
  typeName_ptr_named (nm := "errors.errorString") (by rw [star]; kernel_rfl) (by kernel_rfl) (by decide) u (by rw [star]; exact h)

abbrev batchS : ByteArray := { data := #[115, 108, 105, 112, 114, 105, 110, 103, 58, 32, 98, 97, 116, 99, 104, 32, 108, 97, 114, 103, 101, 114, 32, 116, 104, 97, 110, 32, 116, 104, 101, 32, 114, 105, 110, 103] }
abbrev notS : ByteArray := { data := #[115, 108, 105, 112, 114, 105, 110, 103, 58, 32, 114, 105, 110, 103, 32, 110, 111, 116, 32, 115, 116, 97, 114, 116, 101, 100] }
abbrev closedS : ByteArray := { data := #[115, 108, 105, 112, 114, 105, 110, 103, 58, 32, 114, 105, 110, 103, 32, 99, 108, 111, 115, 101, 100] }
noncomputable def low : Nat := (World.holding Ybaf.prog default ⟨#[], #[], []⟩).heap.size
noncomputable def laidWorld (os : Os) : World :=
  let w0 := World.holding Ybaf.prog os ⟨#[.cells #[.string batchS] 144, .cells #[.string notS] 144, .cells #[.string closedS] 144], #[], []⟩
  { w0 with heap := (((w0.heap.modify 0 fun
      | .cells _ t frozen => .cells #[.iface 142 (.pointer (some ⟨low, 0, none⟩))] t frozen
      | o => o).modify 2 fun
      | .cells _ t frozen => .cells #[.iface 142 (.pointer (some ⟨low + 1, 0, none⟩))] t frozen
      | o => o).modify 1 fun
      | .cells _ t frozen => .cells #[.iface 142 (.pointer (some ⟨low + 2, 0, none⟩))] t frozen
      | o => o).modify 5 fun
      | .cells _ t frozen => .cells #[.string ⟨#[66, 97, 99, 107, 111, 102, 102]⟩, .int .i64 64, .int .i64 0, .bool true, .bool true, .string ⟨#[83, 112, 105, 110]⟩, .int .i64 9223372036854775807, .int .i64 0, .bool false, .bool false, .string ⟨#[89, 105, 101, 108, 100]⟩, .int .i64 0, .int .i64 9223372036854775807, .bool false, .bool true, .string ⟨#[66, 108, 111, 99, 107]⟩, .int .i64 0, .int .i64 0, .bool false, .bool true] t frozen
      | o => o }
theorem laid_met (os : Os) (args : Array Value) : laidMet Ybaf.prog Rows.lawS6447BWholeRow.laid ((laidWorld os).forCall (fun _ _ => 0) ⟨#[], args, []⟩).memory :=
  laidMet_of_run (ps := [.cell 0 0, .cell low 0, .cell 2 0, .cell (low + 1) 0, .cell 1 0, .cell (low + 2) 0] ++ (List.range 20).map (fun i => .cell 5 i)) 8 (by kernel_rfl) (by kernel_rfl) (by kernel_rfl)

set_option maxRecDepth 100000 in
theorem law_long (a0 a1 a2 a3 a4 a7 : Int) (b5 b6 : Bool) (va : Option Addr) (k vcap : Nat) (w : World) (hk : 1048576 < k) :
    Calls Ybaf.prog 3 #[.int .u8 a0, .int .u32 a1, .int .u32 a2, .int .u32 a3, .int .u8 a4, .bool b5, .bool b6, .int .u16 a7, .slice va k vcap] w fun e w' => e = .returned (.bool true) ∧ Below w.heap.size w w' := by
  have h1 : decide (1048576 < k) = true := by simp; omega
  go_enter Ybaf.func3, Ybaf.ntmps3
  go_wp2
  go_ret
  exact ⟨rfl, Below.refl _ _⟩

theorem nat_of {kd : IntKind} {a : Int} (h : (Lit.int kd a).wf = true) (hm : kd.min = 0) : ∃ n : Nat, a = (n : Int) ∧ (n : Int) ≤ kd.max := by
  simp only [Lit.wf, Bool.and_eq_true, decide_eq_true_eq] at h
  rw [hm] at h
  exact ⟨a.toNat, by omega, by omega⟩

set_option maxRecDepth 100000 in
theorem lifted (os : Os) (started : os.Started) (H : Type) (enc : TypeId × Value → H) :
    ReturnsInTold none {} Ybaf.checked os 3 .any Input.okWide ((OpenSpec.ofChange Rows.lawS6447BWholeSpec).preRow enc Ybaf.prog Ybaf.f3 Rows.lawS6447BWholeRow.domain false Rows.lawS6447BWholeRow.laid) (fun F => ((OpenSpec.ofChange Rows.lawS6447BWholeSpec).at F).post enc Ybaf.prog Ybaf.f3 false true false false) (aloneAtReturn Ybaf.prog) nothingAlways := by
  refine returnsInTold_of_row (C := Ybaf.checked) (s := OpenSpec.ofChange Rows.lawS6447BWholeSpec) (by kernel_rfl) own started (by kernel_rfl) Ybaf.func3
    (OpenSpec.witness_stopped_at (enc := enc) (C := Ybaf.checked) false (laidWorld os) #[.int .u8 0, .int .u32 0, .int .u32 0, .int .u32 0, .int .u8 0, .bool false, .bool false, .int .u16 0, .slice Option.none 0 0] rfl (by kernel_rfl) (by kernel_rfl) (by kernel_rfl)
      (OpenSpec.preRow_of_B rfl 8 (by kernel_rfl) (by kernel_rfl) (laid_met os _))) ?_
  intro F W base args ds gs before _ hF hval0 hW _ _ hsz0 hL _
  have hval : ∀ (j : Nat) t v, Ybaf.f3.params[j]? = some t → args[j]? = some v → Value.okWide Ybaf.prog W .any base t v := hval0
  have hW' := hW
  obtain ⟨p, q, hA0, hV0, rfl, hfz, hnd⟩ := hW
  have hA : DataW.TrodAll enc Ybaf.prog W 0 (fun _ => true) true Ybaf.f3.params.toList args.toList ds p := hA0
  have hV : DataW.TrodVars enc Ybaf.prog W (fun _ => true) ["example.com/slipring/slipring.ErrBatchSize", "example.com/slipring/slipring.ErrClosed", "example.com/slipring/slipring.ErrNotStarted", "example.com/slipring/slipring.waitPhases"] gs q := hV0
  rw [Ybaf.params3] at hA hval
  obtain ⟨v0, vs0, d0, ds0, p0, q0, hargs, rfl, rfl, h0, r0⟩ := trodAll_cons hA
  obtain ⟨v1, vs1, d1, ds1, p1, q1, rfl, rfl, rfl, h1, r1⟩ := trodAll_cons r0
  obtain ⟨v2, vs2, d2, ds2, p2, q2, rfl, rfl, rfl, h2, r2⟩ := trodAll_cons r1
  obtain ⟨v3, vs3, d3, ds3, p3, q3, rfl, rfl, rfl, h3, r3⟩ := trodAll_cons r2
  obtain ⟨v4, vs4, d4, ds4, p4, q4, rfl, rfl, rfl, h4, r4⟩ := trodAll_cons r3
  obtain ⟨v5, vs5, d5, ds5, p5, q5, rfl, rfl, rfl, h5, r5⟩ := trodAll_cons r4
  obtain ⟨v6, vs6, d6, ds6, p6, q6, rfl, rfl, rfl, h6, r6⟩ := trodAll_cons r5
  obtain ⟨v7, vs7, d7, ds7, p7, q7, rfl, rfl, rfl, h7, r7⟩ := trodAll_cons r6
  obtain ⟨v8, vs8, d8, ds8, p8, q8, rfl, rfl, rfl, h8, r8⟩ := trodAll_cons r7
  obtain ⟨rfl, rfl, rfl⟩ := trodAll_nil r8
  obtain rfl : args = #[v0, v1, v2, v3, v4, v5, v6, v7, v8] := by cases args; simp_all
  obtain ⟨a0, rfl, rfl, rfl, w0⟩ := open_int Ybaf.underlying5 (hval 0 5 v0 rfl rfl) h0
  obtain ⟨a1, rfl, rfl, rfl, w1⟩ := open_int Ybaf.underlying22 (hval 1 22 v1 rfl rfl) h1
  obtain ⟨a2, rfl, rfl, rfl, w2⟩ := open_int Ybaf.underlying22 (hval 2 22 v2 rfl rfl) h2
  obtain ⟨a3, rfl, rfl, rfl, w3⟩ := open_int Ybaf.underlying22 (hval 3 22 v3 rfl rfl) h3
  obtain ⟨a4, rfl, rfl, rfl, w4⟩ := open_int Ybaf.underlying5 (hval 4 5 v4 rfl rfl) h4
  obtain ⟨b5, rfl, rfl, rfl⟩ := open_bool Ybaf.underlying4 (hval 5 4 v5 rfl rfl) h5
  obtain ⟨b6, rfl, rfl, rfl⟩ := open_bool Ybaf.underlying4 (hval 6 4 v6 rfl rfl) h6
  obtain ⟨a7, rfl, rfl, rfl, w7⟩ := open_int Ybaf.underlying23 (hval 7 23 v7 rfl rfl) h7
  obtain ⟨va, k, vcap, rfl⟩ := okWide_slice Ybaf.underlying24 (hval 8 24 v8 rfl rfl)
  have k8 := h8
  have lt8 : ∀ x ∈ p8, x.block < W.heap.size := by obtain ⟨m, hm⟩ := k8; exact DataW.trod_lt m _ _ _ hm
  obtain ⟨vv, hI, hkv⟩ : ∃ vv, Ints W va k vv ∧ k ≤ vcap := by
    obtain ⟨fuel, hf⟩ := h8
    rcases open_ints Ybaf.underlying24 Ybaf.underlying3 (by kernel_rfl) hf with ⟨hcs, _⟩ | ⟨x, l, c, zs, hcs, _, hl, hm, hz, hx, hcell, hwz⟩
    · simp [Value.cells] at hcs
      obtain ⟨rfl, rfl, rfl⟩ := hcs
      exact ⟨fun _ => 0, fun j hj => absurd hj (by omega), Nat.le_refl _⟩
    · simp [Value.cells] at hcs
      obtain ⟨rfl, rfl, rfl⟩ := hcs
      have hz' : zs.length = vcap := by simpa using hz
      refine ⟨fun j => zs.getD j 0, fun j hj => ?_, hl⟩
      obtain ⟨b, off, spot⟩ := x
      have hspot : spot = Option.none := by simpa [Addr.add] using World.cell?_spot (hcell 0 (by omega))
      subst hspot
      exact ⟨b, off, rfl, by rw [← Addr.add_mid]; exact hcell j (by omega)⟩
  -- the sentinels
  have hL' : laidMet Ybaf.prog Rows.lawS6447BWholeRow.laid W := hL
  obtain ⟨aB, sB, hvB, hcB, _, _⟩ := laid_sentinel (g := 0) hL' gB gBType Ybaf.underlying65 row142 Ybaf.underlying142 Ybaf.underlying144 rfl rfl Ybaf.underlying9 cells144 cells9
  obtain ⟨aN, sN, hvN, hcN, _, _⟩ := laid_sentinel (g := 2) hL'.tail gN gNType Ybaf.underlying65 row142 Ybaf.underlying142 Ybaf.underlying144 rfl rfl Ybaf.underlying9 cells144 cells9
  obtain ⟨aC, sC, hvC, hcC, _, _⟩ := laid_sentinel (g := 1) hL'.tail.tail gC gCType Ybaf.underlying65 row142 Ybaf.underlying142 Ybaf.underlying144 rfl rfl Ybaf.underlying9 cells144 cells9
  have hS : SentB aB aC aN W := ⟨by simpa using World.var?_cell gB hvB 0, by simpa using World.var?_cell gC hvC 0, by simpa using World.var?_cell gN hvN 0, sB, hcB⟩
  clear hA0 hV0 hval0
  have walk : Calls Ybaf.prog 3 #[.int .u8 a0, .int .u32 a1, .int .u32 a2, .int .u32 a3, .int .u8 a4, .bool b5, .bool b6, .int .u16 a7, .slice va k vcap] W fun e w' => e = .returned (.bool true) ∧ Below W.heap.size W w' := by
    by_cases hl : k ≤ 1048576
    · obtain ⟨n0, rfl, m0⟩ := nat_of w0 rfl
      obtain ⟨n1, rfl, m1⟩ := nat_of w1 rfl
      obtain ⟨n2, rfl, m2⟩ := nat_of w2 rfl
      obtain ⟨n3, rfl, m3⟩ := nat_of w3 rfl
      obtain ⟨n4, rfl, m4⟩ := nat_of w4 rfl
      obtain ⟨n7, rfl, m7⟩ := nat_of w7 rfl
      have e0 : IntKind.u8.max = 255 := rfl
      have e1 : IntKind.u32.max = 4294967295 := rfl
      have e2 : IntKind.u16.max = 65535 := rfl
      rw [e0] at m0 m4
      rw [e1] at m1 m2 m3
      rw [e2] at m7
      exact law_b F.told n0 n1 n2 n3 n4 n7 k vcap b5 b6 va vv aB aC aN W hF (by omega) (by omega) (by omega) (by omega) (by omega) (by omega) hl hkv hI hS
    · exact law_long a0 a1 a2 a3 a4 a7 b5 b6 va k vcap W (by omega)
  refine walk.mono fun e W' ⟨he, bel⟩ => ?_
  subst he
  have hV2 := Below.trodVars laidOut bel (by kernel_rfl) hV
  obtain ⟨g1, g2, g3, g4, rfl⟩ : ∃ g1 g2 g3 g4, gs = [g1, g2, g3, g4] := by
    match gs, hV with
    | [], h => exact h.elim
    | [a], h => obtain ⟨_, _, _, _, _, _, _, _, _, _, hs, _⟩ := h; exact hs.elim
    | [a, b], h => obtain ⟨_, _, _, _, _, _, _, _, _, _, hs, _⟩ := h; obtain ⟨_, _, _, _, _, _, _, _, _, _, hs, _⟩ := hs; exact hs.elim
    | [a, b, c], h => obtain ⟨_, _, _, _, _, _, _, _, _, _, hs, _⟩ := h; obtain ⟨_, _, _, _, _, _, _, _, _, _, hs, _⟩ := hs; obtain ⟨_, _, _, _, _, _, _, _, _, _, hs, _⟩ := hs; exact hs.elim
    | [a, b, c, d], _ => exact ⟨a, b, c, d, rfl⟩
    | a :: b :: c :: d :: e :: r, h => obtain ⟨_, _, _, _, _, _, _, _, _, _, hs, _⟩ := h; obtain ⟨_, _, _, _, _, _, _, _, _, _, hs, _⟩ := hs; obtain ⟨_, _, _, _, _, _, _, _, _, _, hs, _⟩ := hs; obtain ⟨_, _, _, _, _, _, _, _, _, _, hs, _⟩ := hs; exact hs.elim
  exact ⟨_, rfl, _, _, _, [], _, _, hW', trodAll_mk1 (shut_bool Ybaf.underlying4 _), (trodAll_cons_mk (shut_int Ybaf.underlying5 w0) (trodAll_cons_mk (shut_int Ybaf.underlying22 w1) (trodAll_cons_mk (shut_int Ybaf.underlying22 w2) (trodAll_cons_mk (shut_int Ybaf.underlying22 w3) (trodAll_cons_mk (shut_int Ybaf.underlying5 w4) (trodAll_cons_mk (shut_bool Ybaf.underlying4 b5) (trodAll_cons_mk (shut_bool Ybaf.underlying4 b6) (trodAll_cons_mk (shut_int Ybaf.underlying23 w7) (trodAll_cons_mk (Below.trod laidOut (by kernel_rfl) (of_decide_eq_true (by kernel_rfl)) k8 bel lt8) trodAll_mk0))))))))), hV2, bel.frame _, fun h => by cases h⟩

theorem proved : Rows.LawS6447BWholeToldSaid :=
  Claim7.holds_of_told_tied_any_at .later 3 Ybaf.f3 "fmt.errorf" [] [] _ _ _ _ _ (by kernel_rfl) rfl rfl rfl laidOut (by kernel_rfl) rfl ⟨rfl, rfl, rfl, rfl, rfl, rfl, rfl⟩ rfl rfl (by kernel_rfl) (by kernel_rfl) Ybaf.func3 (by kernel_rfl)
    (of_decide_eq_true (by kernel_rfl)) (of_decide_eq_true (by kernel_rfl)) stops.symm rfl stopKnobs.symm (by kernel_rfl)
    (by kernel_rfl) (by kernel_rfl) (by kernel_rfl) (by kernel_rfl) (by kernel_rfl) (by kernel_rfl) (by kernel_rfl) (by kernel_rfl) (by kernel_rfl) rfl (by kernel_rfl) rfl rfl
    rfl rfl
    rfl (by kernel_rfl) (by kernel_rfl) (by kernel_rfl) (by decide) (by kernel_rfl) lawS6447BWhole_row_tie
    (OpenClaim.moreEntering_of (by kernel_rfl) (by kernel_rfl) (by kernel_rfl) (by kernel_rfl) (by kernel_rfl) (by kernel_rfl) (by kernel_rfl) (by kernel_rfl) (by kernel_rfl) (by kernel_rfl))
    ⟨_, WideRow.started_initial, quiet _⟩
    (fun os started _ H enc _ => lifted os started H enc)
end Go.Proofs.YbulkecmmFmt.lawS6447BWhole
