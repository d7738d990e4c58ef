/-
  LawS6447BWhole, walked.
-/
import Derived.Test.YbulkecmmFmtSu
import Derived.Test.YbulkecmmFmtIs
import Derived.Deep.CutRange
import Derived.Deep.CutBlock
import Derived.Deep.RegionWith
import Derived.Deep.QuietTactic
set_option linter.unusedVariables false
set_option linter.unusedSimpArgs false
namespace Go.Proofs.YbulkecmmFmt
open Go.RowKit Go.Extern.Stop Go.Stop Go.Extern

/-- The gating sequence's count. -/
def gOf (n gate c k : Nat) (b : Bool) : Nat := if b = true then n - min (gate % (c - k + 1)) n else n
theorem gOf_le (n gate c k : Nat) (b : Bool) : gOf n gate c k b ≤ n := by unfold gOf; split <;> omega
theorem gOf_room {n gate c k : Nat} (hk : k ≤ c) : n + k ≤ gOf n gate c k true + c := by
  have : gate % (c - k + 1) < c - k + 1 := Nat.mod_lt _ (by omega)
  unfold gOf; simp; omega

theorem neq65_same (a : Addr) (w : World) : (binOp .neq 65 (.iface 142 (.pointer (some a))) (.iface 142 (.pointer (some a)))).run Ybaf.prog w = .ok (.bool false) w := by
  obtain ⟨i14, hi14, hcmp⟩ := Option.map_eq_some_iff.1 Ybaf.isComp
  obtain ⟨j14, hj14, hjs⟩ := Option.map_eq_some_iff.1 Ybaf.isSize
  simp only [binOp]
  simp [Op.equal, Op.maxDepth, run_equalIn_iface_ptr_same w 9998 a Ybaf.underlying65 Ybaf.underlying142 hi14 hcmp hj14]

/-- The row that the law expects, beside all that was. -/
structure Ex (E c : Nat) (e : Nat → Int) (w8 w : World) : Prop where
  below : Below w8.heap.size w8 w
  row : w.rowIs E 3 c (fun q => .int .i64 (e q))
theorem Ex.draw {E c : Nat} {e : Nat → Int} {w8 w : World} (h : Ex E c e w8 w) (q : Nat) : Ex E c e w8 (w.drewN q) := ⟨below_drawn h.below q, h.row.of_block rfl⟩
theorem Ex.set {E c i : Nat} {e e' : Nat → Int} {w8 w : World} (h : Ex E c e w8 w) (hE : w8.heap.size ≤ E) (z : Int) (he : ∀ q, q < c → (if q = i then z else e q) = e' q) : Ex E c e' w8 (w.setCell ⟨E, i, none⟩ (.int .i64 z)) :=
  ⟨h.below.setCell hE _, (h.row.set i _).congr fun q hq => by rw [← he q hq]; split <;> rfl⟩
/-- The marks that the law expects. -/
structure Mx (E c : Nat) (e : Nat → Nat) (w8 w : World) : Prop where
  below : Below w8.heap.size w8 w
  row : w.rowIs E 25 c (fun q => .int .u64 (e q : Nat))
theorem Mx.draw {E c : Nat} {e : Nat → Nat} {w8 w : World} (h : Mx E c e w8 w) (q : Nat) : Mx E c e w8 (w.drewN q) := ⟨below_drawn h.below q, h.row.of_block rfl⟩
theorem Mx.set {E c i : Nat} {e e' : Nat → Nat} {w8 w : World} (h : Mx E c e w8 w) (hE : w8.heap.size ≤ E) (z : Nat) (he : ∀ q, q < c → (if q = i then z else e q) = e' q) : Mx E c e' w8 (w.setCell ⟨E, i, none⟩ (.int .u64 (z : Nat))) :=
  ⟨h.below.setCell hE _, (h.row.set i _).congr fun q hq => by rw [← he q hq]; split <;> rfl⟩

/-- What holds behind PublishBatch. -/
structure Pst (B R c : Nat) (pb : Option Nat) (gt : Option (Nat × Nat)) (fl n k nx lm sh : Nat) (multi : Bool) (v : Nat → Int) (g : Nat) (aB aC aN : Addr) (ev : Value) (V : Nat) (w7 w w' : World) : Prop where
  aft : After B R B c pb gt fl n k nx lm sh multi (fun q => -1 - (q : Int)) v (fun _ => 0) g w7 w w'
  er : Er c k fl aB aC aN ev w'
  row : w'.rowIs V 3 k (fun i => .int .i64 (v i))
theorem Pst.next {B R c : Nat} {pb : Option Nat} {gt : Option (Nat × Nat)} {fl n k nx lm sh : Nat} {multi : Bool} {v : Nat → Int} {g : Nat} {aB aC aN : Addr} {ev : Value} {V : Nat} {w7 w w' w'' : World} (h : Pst B R c pb gt fl n k nx lm sh multi v g aB aC aN ev V w7 w w') (hb : Below w'.heap.size w' w'') : Pst B R c pb gt fl n k nx lm sh multi v g aB aC aN ev V w7 w w'' := by
  refine ⟨Rg.next h.aft hb, ?_, h.row.of_block (hb.block V h.row.lt)⟩
  rcases h.er with e | ⟨e1, b, e2, e3⟩ | e | e
  · exact .inl e
  · exact .inr (.inl ⟨e1, b, e2, (hb.cell (by exact World.block_lt_of_cell? w' _ e3)).trans e3⟩)
  · exact .inr (.inr (.inl e))
  · exact .inr (.inr (.inr e))
theorem pst_of {B R c : Nat} {pb : Option Nat} {gt : Option (Nat × Nat)} {fl n k nx lm sh : Nat} {multi : Bool} {v : Nat → Int} {g : Nat} {aB aC aN : Addr} {ev : Value} {V : Nat} {w7 w w' : World} (h : After B R B c pb gt fl n k nx lm sh multi (fun q => -1 - (q : Int)) v (fun _ => 0) g w7 w w') (he : Er c k fl aB aC aN ev w') (hr : w7.rowIs V 3 k (fun i => .int .i64 (v i))) (hV : R < V) (hB : B ≤ R) (hp : ∀ Pb, pb = some Pb → Pb ≠ V) :
    Pst B R c pb gt fl n k nx lm sh multi v g aB aC aN ev V w7 w w' :=
  ⟨h, he, hr.of_block (Rg.kept h V hr.lt (by omega) (by omega) (fun e => hp V e rfl))⟩

set_option maxRecDepth 100000 in
set_option maxHeartbeats 40000000 in
theorem law_b (F : Interp) (cl n l0 sh stt gate k vcap : Nat) (multi hasGate : Bool) (va : Option Addr) (v : Nat → Int) (aB aC aN : Addr) (w : World) (hF : F.answers w.tape) (hcl : cl < 256) (hn : n < 2 ^ 32) (hl0 : l0 < 2 ^ 32) (hsh : sh < 2 ^ 32) (hst : stt < 256) (hgate : gate < 65536) (hk : k ≤ 1048576) (hkv : k ≤ vcap)
    (hI : Ints w va k v) (hS : SentB aB aC aN w) :
    Calls Ybaf.prog 3 #[.int .u8 (cl : Nat), .int .u32 (n : Nat), .int .u32 (l0 : Nat), .int .u32 (sh : Nat), .int .u8 (stt : Nat), .bool multi, .bool hasGate, .int .u16 (gate : Nat), .slice va k vcap] w fun e w' => e = .returned (.bool true) ∧ Below w.heap.size w w' := by
  have HIN : Hid (Ints w va k v ∧ SentB aB aC aN w ∧ F.answers w.tape) := ⟨hI, hS, hF⟩
  clear hI hS hF
  have hk1 : decide (1048576 < k) = false := by simp; omega
  go_enter Ybaf.func3, Ybaf.ntmps3
  go_upto_region 3 with fail
  go_cut [19] from 52 to 54 (fun s19 wx => (∃ c, isCap c ∧ s19 = .int .u64 (c : Nat)) ∧ w = wx)
  case first =>
    have hr : cl % 8 = 0 ∨ cl % 8 = 1 ∨ cl % 8 = 2 ∨ cl % 8 = 3 ∨ cl % 8 = 4 ∨ cl % 8 = 5 ∨ cl % 8 = 6 ∨ cl % 8 = 7 := by omega
    rcases hr with hr | hr | hr | hr | hr | hr | hr | hr
    all_goals
      have hi : (cl : Int) % 8 = ((cl % 8 : Nat) : Int) := by omega
      rw [hr] at hi
      go_wp2_with fail
      go_meet
    · exact ⟨⟨2 ^ 0, ⟨0, by decide, rfl⟩, rfl⟩, rfl⟩
    · exact ⟨⟨2 ^ 1, ⟨1, by decide, rfl⟩, rfl⟩, rfl⟩
    · exact ⟨⟨2 ^ 2, ⟨2, by decide, rfl⟩, rfl⟩, rfl⟩
    · exact ⟨⟨2 ^ 3, ⟨3, by decide, rfl⟩, rfl⟩, rfl⟩
    · exact ⟨⟨2 ^ 4, ⟨4, by decide, rfl⟩, rfl⟩, rfl⟩
    · exact ⟨⟨2 ^ 5, ⟨5, by decide, rfl⟩, rfl⟩, rfl⟩
    · exact ⟨⟨2 ^ 6, ⟨6, by decide, rfl⟩, rfl⟩, rfl⟩
    · exact ⟨⟨2 ^ 7, ⟨7, by decide, rfl⟩, rfl⟩, rfl⟩
  case rest =>
    obtain ⟨⟨c, hc, rfl⟩, rfl⟩ := hcut
    have hcle := hc.le
    have hcpos := hc.pos
    have HC : Hid (isCap c) := hc
    have hmask : (c : Int) - 1 = ((c - 1 : Nat) : Int) := by omega
    clear hc
    go_upto_region 7 with fail
    go_cut [23] from 62 to 68 (fun s23 wx => s23 = .bool (decide (1 ≤ k ∧ k ≤ c)) ∧ w = wx)
    case first =>
      by_cases h0 : 1 ≤ k
      · by_cases h1 : k ≤ c
        · have d0 : decide (1 ≤ k) = true := by simp; omega
          have d1 : decide (k ≤ c) = true := by simp; omega
          go_wp2_with fail
          go_meet
          exact ⟨by rw [decide_eq_true (p := 1 ≤ k ∧ k ≤ c) ⟨h0, h1⟩], rfl⟩
        · have d0 : decide (1 ≤ k) = true := by simp; omega
          have d1 : decide (k ≤ c) = false := by simp; omega
          go_wp2_with fail
          go_meet
          exact ⟨by rw [decide_eq_false (p := 1 ≤ k ∧ k ≤ c) (fun e => h1 e.2)], rfl⟩
      · have d0 : decide (1 ≤ k) = false := by simp; omega
        go_wp2_with fail
        go_meet
        exact ⟨by rw [decide_eq_false (p := 1 ≤ k ∧ k ≤ c) (fun e => h0 e.1)], rfl⟩
    case rest =>
      obtain ⟨rfl, rfl⟩ := hcut
      obtain ⟨rb, hrb⟩ : ∃ rb, rb = decide (1 ≤ k ∧ k ≤ c) := ⟨_, rfl⟩
      rw [← hrb]
      have HRB : Hid (rb = decide (1 ≤ k ∧ k ≤ c)) := hrb
      clear hrb
      go_upto_block 0 with fail
      go_cut [24] from 71 to 76 (fun s24 wx => s24 = .int .u64 ((stt % 4 * 4611686018427387904 : Nat) : Int) ∧ w = wx)
      case first =>
        have hr : stt % 4 = 0 ∨ stt % 4 = 1 ∨ stt % 4 = 2 ∨ stt % 4 = 3 := by omega
        rcases hr with hr | hr | hr | hr
        all_goals
          have hi : (stt : Int) % 4 = ((stt % 4 : Nat) : Int) := by omega
          rw [hr] at hi
          go_wp2_with fail
          go_meet
          exact ⟨by rw [hr]; rfl, rfl⟩
      case rest =>
        obtain ⟨rfl, rfl⟩ := hcut
        obtain ⟨fl, hfl⟩ : ∃ fl, fl = stt % 4 := ⟨_, rfl⟩
        have hf4 : fl < 4 := by omega
        rw [← hfl]
        obtain ⟨FL, hFL⟩ : ∃ FL : Nat, FL = fl * 4611686018427387904 := ⟨_, rfl⟩
        rw [← hFL]
        have hFLb : FL < 18446744073709551616 := by omega
        have HFL : Hid (FL = fl * 4611686018427387904) := hFL
        clear hfl hFL
        go_upto_if 80 with fail
        go_cut [25, 26] from 79 to 80 (fun s25 s26 wx => s25 = .int .u64 (cond multi 0 l0 : Nat) ∧ s26 = .int .u64 (cond multi 0 n : Nat) ∧ w = wx)
        case first =>
          cases multi with
          | true =>
            go_wp2_with fail
            go_meet
            exact ⟨rfl, rfl, rfl⟩
          | false =>
            go_wp2_with fail
            go_meet
            exact ⟨rfl, rfl, rfl⟩
        case rest =>
          obtain ⟨rfl, rfl, rfl⟩ := hcut
          obtain ⟨lm, hlm⟩ : ∃ lm, lm = cond multi 0 l0 := ⟨_, rfl⟩
          obtain ⟨nx, hnx⟩ : ∃ nx, nx = cond multi 0 n := ⟨_, rfl⟩
          have hlm32 : lm < 2 ^ 32 := by rw [hlm]; cases multi <;> simp <;> omega
          have hnx32 : nx < 2 ^ 32 := by rw [hnx]; cases multi <;> simp <;> omega
          have HLN : Hid (nx = cond multi 0 n ∧ (multi = true → lm = 0) ∧ lm = cond multi 0 l0) := ⟨hnx, (fun e => by rw [hlm, e]; rfl), hlm⟩
          rw [← hlm, ← hnx]
          clear hlm hnx
          go_upto_region 22 with fail
          go_cut [85] from 82 to 85 (fun s85 wx => s85 = .bool (hasGate && rb) ∧ w = wx)
          case first =>
            cases hasGate <;> (go_wp2_with fail; go_meet; exact ⟨by simp, rfl⟩)
          case rest =>
            obtain ⟨rfl, rfl⟩ := hcut
            go_upto_if 85 with fail
            go_cut [27] from 82 to 99 (fun s27 wx => s27 = .int .u64 (gOf n gate c k (hasGate && rb) : Nat) ∧ w = wx)
            case first =>
              cases hgb : (hasGate && rb) with
              | false =>
                go_wp2_with fail
                go_meet
                exact ⟨by rw [hgb]; rfl, rfl⟩
              | true =>
                have hin : 1 ≤ k ∧ k ≤ c := by
                  have h1 : rb = true := by cases rb <;> simp_all
                  rw [HRB.out] at h1; simpa using h1
                obtain ⟨m1, hm1⟩ : ∃ m1, m1 = c - k := ⟨_, rfl⟩
                obtain ⟨M, hM⟩ : ∃ M, M = m1 + 1 := ⟨_, rfl⟩
                obtain ⟨D, hD⟩ : ∃ D, D = gate % M := ⟨_, rfl⟩
                have hDM : D < M := by rw [hD]; exact Nat.mod_lt _ (by omega)
                have hw1 : IntKind.u64.wrap ((c : Int) - (k : Int)) = (m1 : Int) := by rw [IntKind.wrap_u64]; omega
                have hw2 : IntKind.u64.wrap ((m1 : Int) + 1) = (M : Int) := by rw [IntKind.wrap_u64]; omega
                have hw3 : (gate : Int) % (M : Int) = (D : Int) := by rw [hD]; rfl
                have hM0 : ((M : Int) == 0) = false := by simp; omega
                have hgo : gOf n gate c k true = n - min D n := by unfold gOf; rw [if_pos rfl, hD, hM, hm1]
                by_cases hDn : n < D
                · have hd : decide ((n : Int) < (D : Int)) = true := by simp; omega
                  have hd2 : decide (n < D) = true := by simp; omega
                  have hg0 : gOf n gate c k true = 0 := by rw [hgo]; omega
                  clear hgo hD hM hm1
                  go_wp2_with fail
                  go_meet
                  exact ⟨by rw [hgb, hg0]; rfl, rfl⟩
                · have hd : decide ((n : Int) < (D : Int)) = false := by simp; omega
                  have hd2 : decide (n < D) = false := by simp; omega
                  obtain ⟨q, hq⟩ : ∃ q, q = n - D := ⟨_, rfl⟩
                  have hw4 : IntKind.u64.wrap ((n : Int) - (D : Int)) = (q : Int) := by rw [IntKind.wrap_u64]; omega
                  have hg0 : gOf n gate c k true = q := by rw [hgo]; omega
                  clear hgo hD hM hm1 hq
                  go_wp2_with fail
                  go_meet
                  exact ⟨by rw [hgb, hg0], rfl⟩
            case rest =>
              obtain ⟨rfl, rfl⟩ := hcut
              obtain ⟨g, hg⟩ : ∃ g, g = gOf n gate c k (hasGate && rb) := ⟨_, rfl⟩
              have hgn : g ≤ n := by rw [hg]; exact gOf_le _ _ _ _ _
              have HGT : Hid (hasGate = true → 1 ≤ k → k ≤ c → n + k ≤ g + c) := fun h1 h2 h3 => by
                have hr : rb = true := by rw [HRB.out]; simp; omega
                rw [hg, h1, hr]; exact gOf_room h3
              rw [← hg]
              clear hg
              have hmk := fun w => make24 .u64 c (by omega) w
              go_wp2_with fail
              have HB0 := Rg.born w c g
              unfold ringC at HB0
              obtain ⟨B, hB⟩ : ∃ B, B = w.heap.size := ⟨_, rfl⟩
              obtain ⟨R, hR⟩ : ∃ R, R = B + 1 := ⟨_, rfl⟩
              rw [← hB] at HB0 ⊢
              rw [← hR] at HB0 ⊢
              have HB0H : Hid (Rg B R B c none none 0 0 0 0 (fun q => if q < 0 then -1 - (q : Int) else 0) (fun _ => 0) g w w ((w.alloc (.cells (madeCells #[.int .i64 0] c) 3)).alloc (.cells (((Ybaf.zeroCells60.setIfInBounds 0 (.slice (some ⟨B, 0, none⟩) c c)).setIfInBounds 1 (.int .u64 ((c - 1 : Nat) : Int))).setIfInBounds 2 (.int .u64 (c : Nat))) 60))) := HB0.congrS (fun i _ => by simp)
              have HBW : Hid (B = w.heap.size) := hB
              clear HB0 hB hR hmk
              go_loopw [30] (fun i wr => ∃ j : Nat, j ≤ c ∧ i = .int .u64 (j : Nat) ∧ Rg B R B c none none 0 0 0 0 (fun q => if q < j then -1 - (q : Int) else 0) (fun _ => 0) g w w wr) (fun i _ => c - (intOf i).toNat)
              case atStart => exact ⟨0, Nat.zero_le _, rfl, HB0H.out⟩
              case round =>
                clear HB0H
                obtain ⟨j, hj, rfl, hrg⟩ := hrel
                have HRGH : Hid (Rg B R B c none none 0 0 0 0 (fun q => if q < j then -1 - (q : Int) else 0) (fun _ => 0) g w w wr) := hrg
                by_cases hjc : j < c
                · have c0 := hrg.c0
                  have cS := hrg.slots.cell hjc
                  have zS := hrg.slots.frozen j
                  have HN : Hid (Rg B R B c none none 0 0 0 0 (fun q => if q < j + 1 then -1 - (q : Int) else 0) (fun _ => 0) g w w (wr.setCell ⟨B, j, none⟩ (.int .i64 (-1 - (j : Int))))) := (hrg.slot j (-1 - (j : Int))).congrS fun q hq => by
                    by_cases e : q = j
                    · subst e; simp
                    · rw [if_neg e]
                      by_cases e2 : q < j
                      · rw [if_pos e2, if_pos (by omega)]
                      · rw [if_neg e2, if_neg (by omega)]
                  clear hrg
                  go_wp2
                  go_roundw
                  case rel => exact ⟨j + 1, by omega, by go_num, HN.out⟩
                  case measure => simp [intOf]; omega
                · have ejc : c = j := by omega
                  subst ejc
                  obtain ⟨w1, hw1⟩ : ∃ w1 : World, w1 = wr := ⟨_, rfl⟩
                  subst hw1
                  have hrg2 := hrg.congrS (s' := fun q => -1 - (q : Int)) (fun q hq => by rw [if_pos hq])
                  have HR1 : Hid (Rg B R B c none none 0 0 0 0 (fun q => -1 - (q : Int)) (fun _ => 0) g w w w1) := hrg2
                  have c3 := hrg2.c3
                  simp only [pubV] at c3
                  have z3 := hrg2.free 3
                  have zR := hrg2.ltR
                  have hBw : B ≤ w1.heap.size := by have := hrg2.lR; omega
                  have hmk := fun w => make27 .u64 c (by omega) w
                  clear hrg hrg2 HRGH
                  go_upto_if 120 with fail
                  go_cut [] from 120 to 125 (fun wx => ∃ pb, pb.isSome = multi ∧ Rg B R B c pb none 0 0 0 0 (fun q => -1 - (q : Int)) (fun _ => 0) g w w wx)
                  case first =>
                    cases multi with
                    | true =>
                      go_wp2_with fail
                      go_meet
                      exact ⟨_, rfl, HR1.out.marks hBw⟩
                    | false =>
                      go_wp2_with fail
                      go_meet
                      exact ⟨none, rfl, HR1.out⟩
                  case rest =>
                    clear HR1 c3 z3 zR hBw hmk
                    obtain ⟨pb, hpb, hrg⟩ := hcut
                    obtain ⟨w2, hw2⟩ : ∃ w2 : World, w2 = wc := ⟨_, rfl⟩
                    subst hw2
                    have HR2 : Hid (Rg B R B c pb none 0 0 0 0 (fun q => -1 - (q : Int)) (fun _ => 0) g w w w2) := hrg
                    have HPB : Hid (pb.isSome = multi) := hpb
                    have c6 := hrg.c6
                    simp only [gatV] at c6
                    have z6 := hrg.free 6
                    have zR := hrg.ltR
                    have hBw : B ≤ w2.heap.size := by have := hrg.lR; omega
                    clear hrg hpb
                    go_upto_if 126 with fail
                    go_cut [31] from 126 to 138 (fun s31 wx => ∃ gt, gt.isSome = hasGate ∧ Rg B R B c pb gt 0 0 0 0 (fun q => -1 - (q : Int)) (fun _ => 0) g w w wx ∧ ∀ Gb Gs, gt = some (Gb, Gs) → s31 = .pointer (some ⟨Gs, 0, none⟩))
                    case first =>
                      cases hasGate with
                      | false =>
                        go_wp2_with fail
                        go_meet
                        exact ⟨none, rfl, HR2.out, fun Gb Gs e => by cases e⟩
                      | true =>
                        go_wp2_with fail
                        have gz := heap_alloc_new w2 (.cells Ybaf.zeroCells55 55)
                        refine (store_u64 w2.heap.size 128 _ (.int .u64 0) _ (by rw [cell_of_row _ _ _ _ _ _ gz]; exact seqC128) (frozen_of_row _ _ _ _ _ gz)).mono ?_
                        rintro e w3 ⟨rfl, hw3⟩
                        have hb3 : Below w2.heap.size w2 w3 := by rw [hw3]; exact ((Below.refl _ _).alloc (Nat.le_refl _) _).setCell (Nat.le_refl _) _
                        have hg3 : w3.heap[w2.heap.size]? = some (.cells (Ybaf.zeroCells55.setIfInBounds 128 (.int .u64 (g : Nat))) 55 (0, 0)) := by rw [hw3]; exact heap_setCell_same _ _ _ _ _ _ gz
                        have hr3 := HR2.out.next hb3
                        have HR3 : Hid (Rg B R B c pb none 0 0 0 0 (fun q => -1 - (q : Int)) (fun _ => 0) g w w w3 ∧ w3.heap[w2.heap.size]? = some (.cells (Ybaf.zeroCells55.setIfInBounds 128 (.int .u64 (g : Nat))) 55 (0, 0)) ∧ B ≤ w3.heap.size) := ⟨hr3, hg3, by have := hb3.size; omega⟩
                        have d6 := hr3.c6
                        simp only [gatV] at d6
                        have y6 := hr3.free 6
                        have yR := hr3.ltR
                        clear hw3 hb3 hg3 hr3 gz c6 z6 zR
                        go_wp2_with fail
                        go_meet
                        exact ⟨some (w3.heap.size, w2.heap.size), rfl, HR3.out.1.gate HR3.out.2.2 hBw HR3.out.2.1 (at_same seqC128), fun Gb Gs e => by cases e; rfl⟩
                    case rest =>
                      clear HR2 c6 z6 zR hBw
                      obtain ⟨gt, hgt, hrg, h31⟩ := hcut
                      obtain ⟨w4, hw4⟩ : ∃ w4 : World, w4 = wc := ⟨_, rfl⟩
                      subst hw4
                      have H31 : Hid (gt.isSome = hasGate ∧ ∀ Gb Gs, gt = some (Gb, Gs) → u31 = .pointer (some ⟨Gs, 0, none⟩)) := ⟨hgt, h31⟩
                      have c391 := hrg.c391
                      have c392 := hrg.c392
                      have z391 := hrg.free 391
                      have z392 := hrg.free 392
                      have hr5 := (hrg.setNx nx).setLm lm
                      have e393 := hr5.c393
                      have y393 := hr5.free 393
                      have HR5 : Hid (Rg B R B c pb gt 0 nx lm sh (fun q => -1 - (q : Int)) (fun _ => 0) g w w (((w4.setCell ⟨R, 391, none⟩ (.int .u64 (nx : Nat))).setCell ⟨R, 392, none⟩ (.int .u64 (lm : Nat))).setCell ⟨R, 393, none⟩ (.int .u64 (sh : Nat)))) := hr5.setSh sh
                      obtain ⟨X, hX⟩ : ∃ X, X = word fl n := ⟨_, rfl⟩
                      have hor : bits .or .u64 (FL : Int) (n : Int) = (X : Int) := by rw [HFL.out, hX]; exact bits_word hf4 (by omega)
                      have HX : Hid (X = word fl n) := hX
                      have hmk := fun w => make24 .i64 k hk w
                      clear hgt hrg h31 hr5 hX
                      go_upto_region 44 with (first | (go_at_call 5; refine (store_u64 R 393 _ _ _ e393 y393).mono ?_; rintro e w' ⟨rfl, rfl⟩) | (go_at_call 6; refine (init_ring HR5.out X).mono ?_; rintro e w6 ⟨rfl, hr6⟩; have HR6 : Hid (Rg B R B c pb gt X nx lm sh (fun q => -1 - (q : Int)) (fun _ => 0) g w w w6) := hr6; clear hr6 HR5))
                      obtain ⟨V, hV⟩ : ∃ V, V = w6.heap.size := ⟨_, rfl⟩
                      have hrow0 := World.rowIs_made w6 (.int .i64 0) k 3
                      have hbw : w.heap.size ≤ B := by rw [HBW.out]; exact Nat.le_refl _
                      have hI6 : Ints (w6.alloc (.cells (madeCells #[.int .i64 0] k) 3)) va k v := (HIN.out.1.below HR6.out.below hbw).below ((Below.refl _ _).alloc (Nat.le_refl _) _) (Nat.le_refl _)
                      rw [← hV] at hrow0 ⊢
                      obtain ⟨w7, hcp, hrow, hoth, ho7, ht7, hp7, hsz7⟩ := copy_vc _ V k vcap va (fun _ => 0) v hrow0 hI6 3
                      have hz6 : (w6.alloc (.cells (madeCells #[.int .i64 0] k) 3)).heap.size = w6.heap.size + 1 := by simp
                      have hb7 : Below w6.heap.size w6 w7 := ⟨ho7, ht7, hp7, by omega, fun b hb => (hoth b (by omega)).trans (Below.heap_alloc _ _ _ hb)⟩
                      have hr7 := HR6.out.next hb7
                      have hrV : R < V := by rw [hV]; exact HR6.out.ltR
                      have hBR := hr7.lR
                      have hpbV : ∀ Pb, pb = some Pb → Pb ≠ V := fun Pb e => by
                        obtain ⟨_, c1, h1, _⟩ := hr7.pub Pb e
                        obtain ⟨c2, h2, _⟩ := hrow
                        exact blk_ne h1 h2 (by decide)
                      have HV : Hid (w7.rowIs V 3 k (fun i => .int .i64 (v i)) ∧ R < V ∧ B ≤ R ∧ ∀ Pb, pb = some Pb → Pb ≠ V) := ⟨hrow, hrV, hBR, hpbV⟩
                      have HPUB : Hid (Calls Ybaf.prog 7 #[.pointer (some ⟨R, 0, none⟩), .slice va k vcap] w7 fun e w' => ∃ ev, e = .returned ev ∧ After B R B c pb gt fl n k nx lm sh multi (fun q => -1 - (q : Int)) v (fun _ => 0) g w7 w w' ∧ Er c k fl aB aC aN ev w') :=
                        publish_any F multi (by rw [← HX.out]; exact hr7.reset) va k vcap v aB aC aN HIN.out.2.2 HPB.out HLN.out.1 HLN.out.2.1 HIN.out.1 hbw HC.out hn hlm32 hsh hk hkv hf4 (by omega) (fun h1 => HGT.out (by rw [← H31.out.1]; exact h1)) HIN.out.2.1
                      clear hrow0 hI6 hrow hoth ho7 ht7 hp7 hsz7 hz6 hb7 hr7 hrV hBR hV HR6 hpbV
                      go_wp2_with (go_at_call 7; refine HPUB.out.mono ?_; rintro e w8 ⟨ev, rfl, hA, hE⟩; have HA : Hid (Pst B R c pb gt fl n k nx lm sh multi v g aB aC aN ev V w7 w w8) := pst_of hA hE HV.out.1 HV.out.2.1 HV.out.2.2.1 HV.out.2.2.2; clear hA hE hcp HPUB)
                      go_loopw [171] (fun i wr => ∃ j : Nat, j ≤ k ∧ i = .int .i64 (j : Nat) ∧ Pst B R c pb gt fl n k nx lm sh multi v g aB aC aN ev V w7 w wr) (fun i _ => k - (intOf i).toNat)
                      case atStart => exact ⟨0, Nat.zero_le _, rfl, HA.out⟩
                      case round =>
                        clear HA HV
                        obtain ⟨j, hj, rfl, hps⟩ := hrel
                        have HPS : Hid (Pst B R c pb gt fl n k nx lm sh multi v g aB aC aN ev V w7 w wr) := hps
                        by_cases hjk : j < k
                        · obtain ⟨b, o, rfl, hcv⟩ := (HIN.out.1.below hps.aft.below hbw) j hjk
                          have hcc := hps.row.cell hjk
                          clear hps
                          go_wp2_with fail
                          go_quiet (fail)
                          go_wp2
                          go_roundw
                          case rel => exact ⟨j + 1, by omega, by go_num, HPS.out.next (below_drawn (Below.refl _ _) _)⟩
                          case measure => simp [intOf]; omega
                        · have ejk : k = j := by omega
                          subst ejk
                          obtain ⟨w8, hw8⟩ : ∃ w8 : World, w8 = wr := ⟨_, rfl⟩
                          subst hw8
                          clear hps
                          go_upto_if 186 with fail
                          go_cut [35] from 185 to 189 (fun s35 wx => s35 = .int .u64 (newLim c gt g : Nat) ∧ w8 = wx)
                          case first =>
                            cases hasGate with
                            | true =>
                              obtain ⟨q, hq⟩ := Option.isSome_iff_exists.1 H31.out.1
                              go_wp2_with fail
                              go_meet
                              exact ⟨by rw [hq]; rfl, rfl⟩
                            | false =>
                              have hq : gt = none := by have := H31.out.1; cases gt with | none => rfl | some _ => cases this
                              go_wp2_with fail
                              go_meet
                              exact ⟨by rw [hq]; simp only [newLim]; congr 1; omega, rfl⟩
                          case rest =>
                            obtain ⟨rfl, rfl⟩ := hcut
                            obtain ⟨NL, hNL⟩ : ∃ NL, NL = newLim c gt g := ⟨_, rfl⟩
                            rw [← hNL]
                            have HNL : Hid (NL = newLim c gt g) := hNL
                            clear hNL
                            go_upto_region 55 with fail
                            go_cut [36] from 190 to 194 (fun s36 wx => s36 = .bool (suc c k fl) ∧ w8 = wx)
                            case first =>
                              have hsb : suc c k fl = (rb && decide (fl = 0)) := by rw [HRB.out, suc]; simp [Bool.and_assoc, Bool.and_comm, Bool.and_left_comm, and_assoc]
                              cases rb with
                              | false =>
                                go_wp2_with fail
                                go_meet
                                exact ⟨by rw [hsb]; rfl, rfl⟩
                              | true =>
                                by_cases h0 : fl = 0
                                · have hz : FL = 0 := by have := HFL.out; omega
                                  subst hz
                                  go_wp2_with fail
                                  go_meet
                                  exact ⟨by rw [hsb, decide_eq_true h0]; rfl, rfl⟩
                                · have hz : ((FL : Int) == 0) = false := by have := HFL.out; simp; omega
                                  have hz2 : (FL == 0) = false := by have := HFL.out; simp; omega
                                  go_wp2_with fail
                                  go_meet
                                  exact ⟨by rw [hsb, decide_eq_false h0]; rfl, rfl⟩
                            case rest =>
                              obtain ⟨rfl, rfl⟩ := hcut
                              obtain ⟨sb, hsb⟩ : ∃ sb, sb = suc c k fl := ⟨_, rfl⟩
                              rw [← hsb]
                              have HSB : Hid (sb = suc c k fl) := hsb
                              clear hsb
                              go_upto_region 56 with fail
                              go_cut [37] from 195 to 210 (fun s37 wx => s37 = .bool (wri c k fl n lm multi) ∧ w8 = wx)
                              case first =>
                                have hwb : wri c k fl n lm multi = (rb && (decide (fl = 0) || (!multi && decide (n + k ≤ lm)))) := by
                                  rw [HRB.out, wri]
                                  cases multi <;> simp [Bool.and_assoc, and_assoc]
                                cases rb with
                                | false =>
                                  go_wp2_with fail
                                  go_meet
                                  exact ⟨by rw [hwb]; rfl, rfl⟩
                                | true =>
                                  by_cases h0 : fl = 0
                                  · have hz : FL = 0 := by have := HFL.out; omega
                                    subst hz
                                    go_wp2_with fail
                                    go_meet
                                    exact ⟨by rw [hwb, decide_eq_true h0]; rfl, rfl⟩
                                  · have hz : ((FL : Int) == 0) = false := by have := HFL.out; simp; omega
                                    have hz2 : (FL == 0) = false := by have := HFL.out; simp; omega
                                    cases multi with
                                    | true =>
                                      go_wp2_with fail
                                      go_meet
                                      exact ⟨by rw [hwb, decide_eq_false h0]; rfl, rfl⟩
                                    | false =>
                                      by_cases hA : n + k ≤ lm
                                      · have dA : decide ((n : Int) + (k : Int) ≤ (lm : Int)) = true := by simp; omega
                                        have dA2 : decide (n + k ≤ lm) = true := by simp; omega
                                        go_wp2_with fail
                                        go_meet
                                        exact ⟨by rw [hwb, dA2]; simp, rfl⟩
                                      · have dA : decide ((n : Int) + (k : Int) ≤ (lm : Int)) = false := by simp; omega
                                        have dA2 : decide (n + k ≤ lm) = false := by simp; omega
                                        go_wp2_with fail
                                        go_meet
                                        exact ⟨by rw [hwb, dA2, decide_eq_false h0]; simp, rfl⟩
                              case rest =>
                                obtain ⟨rfl, rfl⟩ := hcut
                                obtain ⟨wb, hwb⟩ : ∃ wb, wb = wri c k fl n lm multi := ⟨_, rfl⟩
                                rw [← hwb]
                                have HWB : Hid (wb = wri c k fl n lm multi) := hwb
                                clear hwb
                                go_upto_block 5 with fail
                                go_cut [] from 211 to 242 (fun wx => w8 = wx)
                                case first =>
                                  obtain ⟨i14, hi14, hcmp⟩ := Option.map_eq_some_iff.1 Ybaf.isComp
                                  obtain ⟨j14, hj14, hjs⟩ := Option.map_eq_some_iff.1 Ybaf.isSize
                                  have hS8 := HIN.out.2.1.below HPS.out.aft.below hbw
                                  have g0 := hS8.g0
                                  have g1 := hS8.g1
                                  have g2 := hS8.g2
                                  clear hS8
                                  rcases HPS.out.er with ⟨h1, h2⟩ | ⟨h1, b, h2, h3⟩ | ⟨⟨h1, h1'⟩, h2, h3⟩ | ⟨⟨h1, h1'⟩, h2, h3⟩
                                  · subst h2
                                    have d0 : ((k : Int) == 0) = true := by simp; omega
                                    have d1 : (k == 0) = true := by simp; omega
                                    go_wp2_with fail
                                    go_meet
                                    rfl
                                  · have HI1 : Hid (Calls Ybaf.prog 8 #[.iface 128 (.pointer (some ⟨b, 0, none⟩)), .iface 142 (.pointer (some aB))] w8 fun e w' => e = .returned (.bool true) ∧ w' = w8) := is_wrap_same b 0 aB w8 h3
                                    subst h2
                                    have d0 : ((k : Int) == 0) = false := by simp; omega
                                    have d1 : (k == 0) = false := by simp; omega
                                    have d2 : decide (c < k) = true := by simp; omega
                                    clear h3
                                    go_wp2_with (go_at_call 8; refine HI1.out.mono ?_; rintro e w' ⟨rfl, rfl⟩)
                                    go_meet
                                    rfl
                                  · subst h3
                                    have hz : FL = 0 := by have := HFL.out; omega
                                    subst hz
                                    have d0 : ((k : Int) == 0) = false := by simp; omega
                                    have d1 : (k == 0) = false := by simp; omega
                                    have d2 : decide (c < k) = false := by simp; omega
                                    have hb0 : bits .and .u64 0 9223372036854775808 = 0 := by decide
                                    go_wp2_with fail
                                    go_meet
                                    rfl
                                  · have d0 : ((k : Int) == 0) = false := by simp; omega
                                    have d1 : (k == 0) = false := by simp; omega
                                    have d2 : decide (c < k) = false := by simp; omega
                                    have hcl' := bits_closed (fl := fl) (n := 0) hf4 (by decide)
                                    have hw0 : word fl 0 = FL := by have := HFL.out; unfold word; omega
                                    rw [hw0] at hcl'
                                    by_cases hz : fl / 2 = 0
                                    · have hcz : bits .and .u64 (FL : Int) 9223372036854775808 = 0 := by rw [hcl', hz]; rfl
                                      have hn1 : ((FL : Int) == 0) = false := by have := HFL.out; simp; omega
                                      have hn2 : (FL == 0) = false := by have := HFL.out; simp; omega
                                      have hev : ev = .iface 142 (.pointer (some aN)) := by rw [h3]; simp [shutE, hz]
                                      subst hev
                                      have heq := fun w : World => neq65_same aN w
                                      clear hcl' h3
                                      go_wp2_with fail
                                      go_meet
                                      rfl
                                    · have hcz : bits .and .u64 (FL : Int) 9223372036854775808 = 9223372036854775808 := by rw [hcl', show fl / 2 = 1 by omega]; rfl
                                      have hev : ev = .iface 142 (.pointer (some aC)) := by rw [h3]; simp [shutE, hz]
                                      subst hev
                                      have heq := fun w : World => neq65_same aC w
                                      clear hcl' h3
                                      go_wp2_with fail
                                      go_meet
                                      rfl
                                case rest =>
                                  obtain rfl := hcut
                                  have hmk := fun w => make24 .u64 c (by omega) w
                                  go_wp2_with fail
                                  obtain ⟨E, hE⟩ : ∃ E, E = w8.heap.size := ⟨_, rfl⟩
                                  have hE0 : Ex E c (fun q => if q < 0 then -1 - (q : Int) else 0) w8 (w8.alloc (.cells (madeCells #[.int .i64 0] c) 3)) := by
                                    rw [hE]
                                    exact ⟨(Below.refl _ _).alloc (Nat.le_refl _) _, (World.rowIs_made w8 (.int .i64 0) c 3).congr fun q _ => by simp⟩
                                  rw [← hE]
                                  have HE0 : Hid (Ex E c (fun q => if q < 0 then -1 - (q : Int) else 0) w8 (w8.alloc (.cells (madeCells #[.int .i64 0] c) 3)) ∧ w8.heap.size ≤ E) := ⟨hE0, by omega⟩
                                  clear hE0 hE hmk
                                  go_loopw [39] (fun i wr => ∃ j : Nat, j ≤ c ∧ i = .int .u64 (j : Nat) ∧ Ex E c (fun q => if q < j then -1 - (q : Int) else 0) w8 wr) (fun i _ => c - (intOf i).toNat)
                                  case atStart => exact ⟨0, Nat.zero_le _, rfl, HE0.out.1⟩
                                  case round =>
                                    obtain ⟨j, hj, rfl, hex⟩ := hrel
                                    have HEX : Hid (Ex E c (fun q => if q < j then -1 - (q : Int) else 0) w8 wr) := hex
                                    by_cases hjc : j < c
                                    · have cS := hex.row.cell hjc
                                      have zS := hex.row.frozen j
                                      have HN : Hid (Ex E c (fun q => if q < j + 1 then -1 - (q : Int) else 0) w8 (wr.setCell ⟨E, j, none⟩ (.int .i64 (-1 - (j : Int))))) := hex.set HE0.out.2 (-1 - (j : Int)) fun q hq => by
                                        by_cases e : q = j
                                        · subst e; simp
                                        · rw [if_neg e]
                                          by_cases e2 : q < j
                                          · rw [if_pos e2, if_pos (by omega)]
                                          · rw [if_neg e2, if_neg (by omega)]
                                      clear hex
                                      go_wp2
                                      go_roundw
                                      case rel => exact ⟨j + 1, by omega, by go_num, HN.out⟩
                                      case measure => simp [intOf]; omega
                                    · have ejc : c = j := by omega
                                      subst ejc
                                      have HEX2 : Hid (Ex E c (fun q => -1 - (q : Int)) w8 wr) := (⟨hex.below, hex.row.congr fun q hq => by rw [if_pos hq]⟩ : Ex E c (fun q => -1 - (q : Int)) w8 wr)
                                      clear hex HEX
                                      go_upto_if 256 with fail
                                      go_cut [] from 256 to 272 (fun wx => Ex E c (fun q => cond wb (wrt (fun q => -1 - (q : Int)) v n k c q) (-1 - (q : Int))) w8 wx)
                                      case first =>
                                        cases wb with
                                        | false =>
                                          go_wp2_with fail
                                          go_meet
                                          exact HEX2.out
                                        | true =>
                                          have hkc : k ≤ c := by have := HWB.out; simp [wri] at this; omega
                                          go_wp2_with fail
                                          go_loopw [40] (fun i wr => ∃ j : Nat, j ≤ k ∧ i = .int .u64 (j : Nat) ∧ Ex E c (fun q => if plc c n q < j then v (plc c n q) else -1 - (q : Int)) w8 wr) (fun i _ => k - (intOf i).toNat)
                                          case atStart => exact ⟨0, Nat.zero_le _, rfl, ⟨HEX2.out.below, HEX2.out.row.congr fun q hq => by simp⟩⟩
                                          case round =>
                                            clear HEX2
                                            obtain ⟨j, hj, rfl, hex⟩ := hrel
                                            have HEX : Hid (Ex E c (fun q => if plc c n q < j then v (plc c n q) else -1 - (q : Int)) w8 wr) := hex
                                            by_cases hjk : j < k
                                            · obtain ⟨i0, hi0⟩ : ∃ i0, i0 = (n + j) % c := ⟨_, rfl⟩
                                              have hlt : i0 < c := by rw [hi0]; exact Nat.mod_lt _ hcpos
                                              have hm : bits .and .u64 ((n : Int) + (j : Int)) ((c - 1 : Nat) : Int) = (i0 : Int) := by rw [hi0]; exact HC.out.mask (n := n + j) (by omega)
                                              have cE := hex.row.cell hlt
                                              have zE := hex.row.frozen i0
                                              have cV := (HPS.out.next hex.below).row.cell hjk
                                              have HN : Hid (Ex E c (fun q => if plc c n q < j + 1 then v (plc c n q) else -1 - (q : Int)) w8 (wr.setCell ⟨E, i0, none⟩ (.int .i64 (v j)))) := hex.set HE0.out.2 (v j) fun q hq => by
                                                have h1 := plc_iff (n := n) HC.out (show j < c by omega) hq
                                                by_cases e : q = i0
                                                · rw [if_pos e, if_pos (by rw [h1.2 (by rw [e, hi0])]; omega), h1.2 (by rw [e, hi0])]
                                                · rw [if_neg e]
                                                  have : plc c n q ≠ j := fun h => e (by rw [hi0]; exact h1.1 h)
                                                  by_cases e2 : plc c n q < j
                                                  · rw [if_pos e2, if_pos (by omega)]
                                                  · rw [if_neg e2, if_neg (by omega)]
                                              clear hex hi0
                                              go_wp2
                                              go_roundw
                                              case rel => exact ⟨j + 1, by omega, by go_num, HN.out⟩
                                              case measure => simp [intOf]; omega
                                            · have ejk : k = j := by omega
                                              subst ejk
                                              clear hex
                                              go_wp2_with fail
                                              go_meet
                                              exact HEX.out
                                      case rest =>
                                        clear HEX2
                                        have hex := hcut
                                        obtain ⟨w9, hw9⟩ : ∃ w9 : World, w9 = wc := ⟨_, rfl⟩
                                        subst hw9
                                        have HX9 : Hid (Ex E c (fun q => cond wb (wrt (fun q => -1 - (q : Int)) v n k c q) (-1 - (q : Int))) w8 w9) := hex
                                        have hps9 := HPS.out.next hex.below
                                        have hA9 : Rg B R B c pb gt (cond sb (n + k) X) (cond (sb && !multi) (n + k) nx) (cond (!multi && sb && decide (lm < n + k)) NL lm) (cond (multi && sb && decide (sh < n + k)) NL sh) (fun i => cond wb (wrt (fun q => -1 - (q : Int)) v n k c i) (-1 - (i : Int))) (fun i => cond (multi && sb) (mk (fun _ => 0) n k c 0 i) 0) g w7 w w9 := by
                                          have := hps9.aft
                                          unfold After at this
                                          rw [← HSB.out, ← HWB.out, ← HNL.out, ← HX.out] at this
                                          exact this
                                        obtain ⟨x8, hx8⟩ : ∃ x8, x8 = cond sb (n + k) X := ⟨_, rfl⟩
                                        obtain ⟨nx8, hnx8⟩ : ∃ nx8, nx8 = cond (sb && !multi) (n + k) nx := ⟨_, rfl⟩
                                        obtain ⟨lm8, hlm8⟩ : ∃ lm8, lm8 = cond (!multi && sb && decide (lm < n + k)) NL lm := ⟨_, rfl⟩
                                        obtain ⟨sh8, hsh8⟩ : ∃ sh8, sh8 = cond (multi && sb && decide (sh < n + k)) NL sh := ⟨_, rfl⟩
                                        rw [← hx8, ← hnx8, ← hlm8, ← hsh8] at hA9
                                        have HN8 : Hid (x8 = cond sb (n + k) X ∧ nx8 = cond (sb && !multi) (n + k) nx ∧ lm8 = cond (!multi && sb && decide (lm < n + k)) NL lm ∧ sh8 = cond (multi && sb && decide (sh < n + k)) NL sh) := ⟨hx8, hnx8, hlm8, hsh8⟩
                                        have HA9 : Hid (Rg B R B c pb gt x8 nx8 lm8 sh8 (fun i => cond wb (wrt (fun q => -1 - (q : Int)) v n k c i) (-1 - (i : Int))) (fun i => cond (multi && sb) (mk (fun _ => 0) n k c 0 i) 0) g w7 w w9) := hA9
                                        have c0 := hA9.c0
                                        clear hex hps9 hA9 hx8 hnx8 hlm8 hsh8
                                        go_wp2_with fail
                                        go_loopw [41] (fun i wr => ∃ j : Nat, j ≤ c ∧ i = .int .u64 (j : Nat) ∧ Below w9.heap.size w9 wr) (fun i _ => c - (intOf i).toNat)
                                        case atStart => exact ⟨0, Nat.zero_le _, rfl, Below.refl _ _⟩
                                        case round =>
                                          obtain ⟨j, hj, rfl, hbq⟩ := hrel
                                          have HQ : Hid (Below w9.heap.size w9 wr) := hbq
                                          have hAr := HA9.out.next hbq
                                          have hXr : wr.rowIs E 3 c (fun q => .int .i64 (cond wb (wrt (fun q => -1 - (q : Int)) v n k c q) (-1 - (q : Int)))) := HX9.out.row.of_block (hbq.block E HX9.out.row.lt)
                                          clear hbq c0
                                          by_cases hjc : j < c
                                          · have d0 := hAr.c0
                                            have e1 := hAr.slots.cell hjc
                                            have e2 := hXr.cell hjc
                                            obtain ⟨z, hz⟩ : ∃ z : Int, z = cond wb (wrt (fun q => -1 - (q : Int)) v n k c j) (-1 - (j : Int)) := ⟨_, rfl⟩
                                            simp only [← hz] at e1 e2
                                            clear hAr hXr hz
                                            go_wp2_with fail
                                            go_quiet (fail)
                                            go_wp2
                                            go_roundw
                                            case rel => exact ⟨j + 1, by omega, by go_num, below_drawn HQ.out _⟩
                                            case measure => simp [intOf]; omega
                                          · have ejc : c = j := by omega
                                            subst ejc
                                            obtain ⟨wA, hwA⟩ : ∃ wA : World, wA = wr := ⟨_, rfl⟩
                                            subst hwA
                                            have HAA : Hid (Rg B R B c pb gt x8 nx8 lm8 sh8 (fun i => cond wb (wrt (fun q => -1 - (q : Int)) v n k c i) (-1 - (i : Int))) (fun i => cond (multi && sb) (mk (fun _ => 0) n k c 0 i) 0) g w7 w wA) := hAr
                                            have c135 := hAr.c135
                                            have c391 := hAr.c391
                                            have c392 := hAr.c392
                                            have c393 := hAr.c393
                                            clear hAr hXr HQ HA9 HX9
                                            go_upto_if 301 with fail
                                            go_cut [42] from 301 to 304 (fun s42 wx => s42 = .int .u64 (x8 : Nat) ∧ wA = wx)
                                            case first =>
                                              have h1 := HN8.out.1
                                              cases sb with
                                              | true =>
                                                go_wp2_with fail
                                                go_meet
                                                exact ⟨by rw [h1]; rfl, rfl⟩
                                              | false =>
                                                go_wp2_with fail
                                                go_meet
                                                exact ⟨by rw [h1]; rfl, rfl⟩
                                            case rest =>
                                              obtain ⟨rfl, rfl⟩ := hcut
                                              go_upto_region 94 with (go_at_call 9; refine (load_u64 R 135 _ _ c135).mono ?_; rintro e w' ⟨rfl, hw'⟩; obtain rfl : wA = w' := hw'.symm)
                                              go_cut [317] from 313 to 317 (fun t wx => t = .bool (sb && !multi) ∧ wA = wx)
                                              case first =>
                                                cases sb <;> cases multi <;> (go_wp2_with fail; go_meet; exact ⟨rfl, rfl⟩)
                                              case rest =>
                                                obtain ⟨rfl, rfl⟩ := hcut
                                                go_upto_if 317 with fail
                                                go_cut [43] from 313 to 320 (fun t wx => t = .int .u64 (nx8 : Nat) ∧ wA = wx)
                                                case first =>
                                                  have h1 := HN8.out.2.1
                                                  cases hb : (sb && !multi) with
                                                  | true =>
                                                    go_wp2_with fail
                                                    go_meet
                                                    exact ⟨by rw [h1, hb]; rfl, rfl⟩
                                                  | false =>
                                                    go_wp2_with fail
                                                    go_meet
                                                    exact ⟨by rw [h1, hb]; rfl, rfl⟩
                                                case rest =>
                                                  obtain ⟨rfl, rfl⟩ := hcut
                                                  go_upto_region 99 with fail
                                                  go_cut [339] from 328 to 339 (fun t wx => t = .bool (!multi && sb && decide (lm < n + k)) ∧ wA = wx)
                                                  case first =>
                                                    by_cases hA : lm < n + k
                                                    · have dA : decide ((lm : Int) < (n : Int) + (k : Int)) = true := by simp; omega
                                                      have dA2 : decide (lm < n + k) = true := by simp; omega
                                                      cases multi <;> cases sb <;> (go_wp2_with fail; go_meet; exact ⟨by rw [dA2]; rfl, rfl⟩)
                                                    · have dA : decide ((lm : Int) < (n : Int) + (k : Int)) = false := by simp; omega
                                                      have dA2 : decide (lm < n + k) = false := by simp; omega
                                                      cases multi <;> cases sb <;> (go_wp2_with fail; go_meet; exact ⟨by rw [dA2]; rfl, rfl⟩)
                                                  case rest =>
                                                    obtain ⟨rfl, rfl⟩ := hcut
                                                    go_upto_if 339 with fail
                                                    go_cut [44] from 328 to 340 (fun t wx => t = .int .u64 (lm8 : Nat) ∧ wA = wx)
                                                    case first =>
                                                      have h1 := HN8.out.2.2.1
                                                      cases hb : (!multi && sb && decide (lm < n + k)) with
                                                      | true =>
                                                        go_wp2_with fail
                                                        go_meet
                                                        exact ⟨by rw [h1, hb]; rfl, rfl⟩
                                                      | false =>
                                                        go_wp2_with fail
                                                        go_meet
                                                        exact ⟨by rw [h1, hb]; rfl, rfl⟩
                                                    case rest =>
                                                      obtain ⟨rfl, rfl⟩ := hcut
                                                      go_upto_region 104 with fail
                                                      go_cut [360] from 349 to 360 (fun t wx => t = .bool (multi && sb && decide (sh < n + k)) ∧ wA = wx)
                                                      case first =>
                                                        by_cases hA : sh < n + k
                                                        · have dA : decide ((sh : Int) < (n : Int) + (k : Int)) = true := by simp; omega
                                                          have dA2 : decide (sh < n + k) = true := by simp; omega
                                                          cases multi <;> cases sb <;> (go_wp2_with fail; go_meet; exact ⟨by rw [dA2]; rfl, rfl⟩)
                                                        · have dA : decide ((sh : Int) < (n : Int) + (k : Int)) = false := by simp; omega
                                                          have dA2 : decide (sh < n + k) = false := by simp; omega
                                                          cases multi <;> cases sb <;> (go_wp2_with fail; go_meet; exact ⟨by rw [dA2]; rfl, rfl⟩)
                                                      case rest =>
                                                        obtain ⟨rfl, rfl⟩ := hcut
                                                        go_upto_if 360 with fail
                                                        go_cut [45] from 349 to 361 (fun t wx => t = .int .u64 (sh8 : Nat) ∧ wA = wx)
                                                        case first =>
                                                          have h1 := HN8.out.2.2.2
                                                          cases hb : (multi && sb && decide (sh < n + k)) with
                                                          | true =>
                                                            go_wp2_with fail
                                                            go_meet
                                                            exact ⟨by rw [h1, hb]; rfl, rfl⟩
                                                          | false =>
                                                            go_wp2_with fail
                                                            go_meet
                                                            exact ⟨by rw [h1, hb]; rfl, rfl⟩
                                                        case rest =>
                                                          obtain ⟨rfl, rfl⟩ := hcut
                                                          go_upto_if 368 with (go_at_call 9; refine (load_u64 R 393 _ _ c393).mono ?_; rintro e w' ⟨rfl, hw'⟩; obtain rfl : wA = w' := hw'.symm)
                                                          go_cut [] from 368 to 409 (fun wx => Below wA.heap.size wA wx)
                                                          case first =>
                                                            clear c135 c391 c392 c393
                                                            cases multi with
                                                            | false =>
                                                              have hpn : pb = none := by have := HPB.out; cases pb with | none => rfl | some _ => cases this
                                                              subst hpn
                                                              have c3 := HAA.out.c3
                                                              simp only [pubV] at c3
                                                              have hne := fun w => run_neq_slice_nil_any (P := Ybaf.prog) w 27 36 none 0 0 0 0 Ybaf.underlying27
                                                              go_wp2_with fail
                                                              go_meet
                                                              exact Below.refl _ _
                                                            | true =>
                                                              obtain ⟨Pb, hPb⟩ := Option.isSome_iff_exists.1 HPB.out
                                                              subst hPb
                                                              have hmk := fun w => make69 .u64 c (by omega) w
                                                              go_upto_if 371 with fail
                                                              obtain ⟨M, hM⟩ : ∃ M, M = wA.heap.size := ⟨_, rfl⟩
                                                              have hM0 : Mx M c (fun _ => 0) wA (wA.alloc (.cells (madeCells #[.int .u64 0] c) 25)) := by
                                                                rw [hM]
                                                                exact ⟨(Below.refl _ _).alloc (Nat.le_refl _) _, World.rowIs_made wA (.int .u64 0) c 25⟩
                                                              rw [← hM]
                                                              have HM0 : Hid (Mx M c (fun _ => 0) wA (wA.alloc (.cells (madeCells #[.int .u64 0] c) 25)) ∧ wA.heap.size ≤ M) := ⟨hM0, by omega⟩
                                                              clear hM0 hM hmk
                                                              go_cut [] from 371 to 387 (fun wx => Mx M c (fun q => cond sb (mk (fun _ => 0) n k c 0 q) 0) wA wx)
                                                              case first =>
                                                                cases sb with
                                                                | false =>
                                                                  go_wp2_with fail
                                                                  go_meet
                                                                  exact HM0.out.1
                                                                | true =>
                                                                  have hkc : k ≤ c := by have := HSB.out; simp [suc] at this; omega
                                                                  go_wp2_with fail
                                                                  go_loopw [47] (fun i wr => ∃ j : Nat, j ≤ k ∧ i = .int .u64 (j : Nat) ∧ Mx M c (fun q => if plc c n q < j then n + plc c n q + 1 else 0) wA wr) (fun i _ => k - (intOf i).toNat)
                                                                  case atStart => exact ⟨0, Nat.zero_le _, rfl, ⟨HM0.out.1.below, HM0.out.1.row.congr fun q hq => by simp⟩⟩
                                                                  case round =>
                                                                    obtain ⟨j, hj, rfl, hex⟩ := hrel
                                                                    have HEX : Hid (Mx M c (fun q => if plc c n q < j then n + plc c n q + 1 else 0) wA wr) := hex
                                                                    by_cases hjk : j < k
                                                                    · obtain ⟨i0, hi0⟩ : ∃ i0, i0 = (n + j) % c := ⟨_, rfl⟩
                                                                      have hlt : i0 < c := by rw [hi0]; exact Nat.mod_lt _ hcpos
                                                                      have hm : bits .and .u64 ((n : Int) + (j : Int)) ((c - 1 : Nat) : Int) = (i0 : Int) := by rw [hi0]; exact HC.out.mask (n := n + j) (by omega)
                                                                      have cE := hex.row.cell hlt
                                                                      have zE := hex.row.frozen i0
                                                                      have HN : Hid (Mx M c (fun q => if plc c n q < j + 1 then n + plc c n q + 1 else 0) wA (wr.setCell ⟨M, i0, none⟩ (.int .u64 ((n + j + 1 : Nat) : Int)))) := hex.set HM0.out.2 (n + j + 1) fun q hq => by
                                                                        have h1 := plc_iff (n := n) HC.out (show j < c by omega) hq
                                                                        by_cases e : q = i0
                                                                        · rw [if_pos e, if_pos (by rw [h1.2 (by rw [e, hi0])]; omega), h1.2 (by rw [e, hi0])]
                                                                        · rw [if_neg e]
                                                                          have : plc c n q ≠ j := fun h => e (by rw [hi0]; exact h1.1 h)
                                                                          by_cases e2 : plc c n q < j
                                                                          · rw [if_pos e2, if_pos (by omega)]
                                                                          · rw [if_neg e2, if_neg (by omega)]
                                                                      clear hex hi0
                                                                      go_wp2
                                                                      go_roundw
                                                                      case rel => exact ⟨j + 1, by omega, by go_num, HN.out⟩
                                                                      case measure => simp [intOf]; omega
                                                                    · have ejk : k = j := by omega
                                                                      subst ejk
                                                                      clear hex
                                                                      go_wp2_with fail
                                                                      go_meet
                                                                      exact ⟨HEX.out.below, HEX.out.row.congr fun q hq => by simp [mk]⟩
                                                              case rest =>
                                                                have hmx := hcut
                                                                obtain ⟨wB, hwB⟩ : ∃ wB : World, wB = wc := ⟨_, rfl⟩
                                                                subst hwB
                                                                have HMX : Hid (Mx M c (fun q => cond sb (mk (fun _ => 0) n k c 0 q) 0) wA wB) := hmx
                                                                have HAB : Hid (Rg B R B c (some Pb) gt x8 nx8 lm8 sh8 (fun i => cond wb (wrt (fun q => -1 - (q : Int)) v n k c i) (-1 - (i : Int))) (fun i => cond (true && sb) (mk (fun _ => 0) n k c 0 i) 0) g w7 w wB) := HAA.out.next hmx.below
                                                                clear hmx HM0
                                                                go_wp2_with fail
                                                                go_loopw [48] (fun i wr => ∃ j : Nat, j ≤ c ∧ i = .int .u64 (j : Nat) ∧ Below wB.heap.size wB wr) (fun i _ => c - (intOf i).toNat)
                                                                case atStart => exact ⟨0, Nat.zero_le _, rfl, Below.refl _ _⟩
                                                                case round =>
                                                                  obtain ⟨j, hj, rfl, hbq⟩ := hrel
                                                                  have HQ : Hid (Below wB.heap.size wB wr) := hbq
                                                                  have hAr := HAB.out.next hbq
                                                                  have hXr : wr.rowIs M 25 c (fun q => .int .u64 (cond sb (mk (fun _ => 0) n k c 0 q) 0 : Nat)) := HMX.out.row.of_block (hbq.block M HMX.out.row.lt)
                                                                  clear hbq
                                                                  by_cases hjc : j < c
                                                                  · have d3 := hAr.c3
                                                                    simp only [pubV] at d3
                                                                    have e1 := (hAr.pub Pb rfl).2.cell hjc
                                                                    have e2 := hXr.cell hjc
                                                                    obtain ⟨z, hz⟩ : ∃ z : Nat, z = cond sb (mk (fun _ => 0) n k c 0 j) 0 := ⟨_, rfl⟩
                                                                    simp only [Bool.true_and, ← hz] at e1 e2
                                                                    clear hAr hXr hz
                                                                    go_wp2_with fail
                                                                    have e1d : wr.drew.cell? ⟨Pb, j, none⟩ = some (.int .u64 (z : Nat)) := e1
                                                                    go_region_with (go_at_call 9; refine (load_u64 Pb j _ _ e1d).mono ?_; rintro e w' ⟨rfl, hw'⟩; obtain rfl : wr.drew = w' := hw'.symm)
                                                                    all_goals
                                                                      go_wp2
                                                                      go_roundw
                                                                      case rel => exact ⟨j + 1, by omega, by go_num, HQ.out.drew⟩
                                                                      case measure => simp [intOf]; omega
                                                                  · have ejc : c = j := by omega
                                                                    subst ejc
                                                                    clear hAr hXr
                                                                    go_wp2_with fail
                                                                    go_meet
                                                                    exact HMX.out.below.trans (HQ.out.mono HMX.out.below.size)
                                                          case rest =>
                                                            clear c135 c391 c392 c393
                                                            have hbC := hcut
                                                            obtain ⟨wC, hwC⟩ : ∃ wC : World, wC = wc := ⟨_, rfl⟩
                                                            subst hwC
                                                            have HAC : Hid (Rg B R B c pb gt x8 nx8 lm8 sh8 (fun i => cond wb (wrt (fun q => -1 - (q : Int)) v n k c i) (-1 - (i : Int))) (fun i => cond (multi && sb) (mk (fun _ => 0) n k c 0 i) 0) g w7 w wC) := HAA.out.next hbC
                                                            clear hbC HAA
                                                            go_upto_region 122 with fail
                                                            go_cut [418] from 410 to 418 (fun t wx => t = .bool false ∧ wC = wx)
                                                            case first =>
                                                              cases hasGate with
                                                              | false =>
                                                                go_wp2_with fail
                                                                go_meet
                                                                exact ⟨rfl, rfl⟩
                                                              | true =>
                                                                obtain ⟨⟨Gb, Gs⟩, hq⟩ := Option.isSome_iff_exists.1 H31.out.1
                                                                have h31 := H31.out.2 Gb Gs hq
                                                                obtain ⟨_, _, _, cg, hbg, hvg⟩ := HAC.out.gat Gb Gs hq
                                                                have k2 : wC.cell? ⟨Gs, 128, none⟩ = some (.int .u64 (g : Nat)) := by rw [cell_of_row _ _ _ _ _ _ hbg]; exact hvg
                                                                subst h31
                                                                clear hbg hvg
                                                                go_wp2_with (go_at_call 9; refine (load_u64 Gs 128 _ _ k2).mono ?_; rintro e w' ⟨rfl, hw'⟩; obtain rfl : wC = w' := hw'.symm)
                                                                go_meet
                                                                exact ⟨rfl, rfl⟩
                                                            case rest =>
                                                              obtain ⟨rfl, rfl⟩ := hcut
                                                              go_wp2
                                                              go_ret
                                                              exact ⟨rfl, by rw [← HBW.out]; exact HAC.out.below⟩
end Go.Proofs.YbulkecmmFmt
