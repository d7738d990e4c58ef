/-
  PublishBatch, whole: by one contract.
-/
import Derived.Test.YbulkecmmFmtPub2
set_option linter.unusedVariables false
set_option linter.unusedSimpArgs false
namespace Go.Proofs.YbulkecmmFmt
open Go.RowKit Go.Extern.Stop Go.Stop Go.Extern

/-- The batch is published. -/
def suc (c k fl : Nat) : Bool := decide (1 ≤ k ∧ k ≤ c ∧ fl = 0)
/-- The batch is written into the slots. -/
def wri (c k fl n lm : Nat) (multi : Bool) : Bool := decide (1 ≤ k ∧ k ≤ c ∧ (fl = 0 ∨ (multi = false ∧ n + k ≤ lm)))
/-- The error. -/
def Er (c k fl : Nat) (aB aC aN : Addr) (ev : Value) (w : World) : Prop :=
  (k = 0 ∧ ev = .nilIface) ∨ (c < k ∧ ∃ b, ev = .iface 128 (.pointer (some ⟨b, 0, none⟩)) ∧ w.cell? ⟨b, 1, none⟩ = some (.iface 142 (.pointer (some aB)))) ∨
  ((1 ≤ k ∧ k ≤ c) ∧ fl = 0 ∧ ev = .nilIface) ∨ ((1 ≤ k ∧ k ≤ c) ∧ fl ≠ 0 ∧ ev = shutE fl aC aN)

/-- The three sentinels. -/
structure SentB (aB aC aN : Addr) (w : World) : Prop where
  g0 : w.cell? ⟨0, 0, none⟩ = some (.iface 142 (.pointer (some aB)))
  g1 : w.cell? ⟨1, 0, none⟩ = some (.iface 142 (.pointer (some aC)))
  g2 : w.cell? ⟨2, 0, none⟩ = some (.iface 142 (.pointer (some aN)))
  sB : ∃ s, w.cell? aB = some (.string s)
theorem SentB.below {aB aC aN : Addr} {w w' : World} {X : Nat} (h : SentB aB aC aN w) (hb : Below X w w') (hX : w.heap.size ≤ X) : SentB aB aC aN w' := by
  have up : ∀ {ad : Addr} {v : Value}, w.cell? ad = some v → w'.cell? ad = some v := fun {ad v} h => (hb.cell (by have := World.block_lt_of_cell? w _ h; omega)).trans h
  obtain ⟨s, hs⟩ := h.sB
  exact ⟨up h.g0, up h.g1, up h.g2, s, up hs⟩

/-- The ring behind the call. -/
def After (B R S c : Nat) (pb : Option Nat) (gt : Option (Nat × Nat)) (fl n k nx lm sh : Nat) (multi : Bool) (s v : Nat → Int) (p : Nat → Nat) (g : Nat) (wz w0 w : World) : Prop :=
  Rg B R S c pb gt (cond (suc c k fl) (n + k) (word fl n)) (cond (suc c k fl && !multi) (n + k) nx) (cond (!multi && suc c k fl && decide (lm < n + k)) (newLim c gt g) lm) (cond (multi && suc c k fl && decide (sh < n + k)) (newLim c gt g) sh)
    (fun i => cond (wri c k fl n lm multi) (wrt s v n k c i) (s i)) (fun i => cond (multi && suc c k fl) (mk p n k c 0 i) (p i)) g wz w0 w

theorem publish_any (F : Interp) (multi : Bool) {B R S c : Nat} {pb : Option Nat} {gt : Option (Nat × Nat)} {fl n nx lm sh : Nat} {s : Nat → Int} {p : Nat → Nat} {g : Nat} {wz w0 w : World} (h : Rg B R S c pb gt (word fl n) nx lm sh s p g wz w0 w) (va : Option Addr) (k vcap : Nat) (v : Nat → Int) (aB aC aN : Addr)
    (hF : F.answers w0.tape) (hpb : pb.isSome = multi) (hnx : nx = cond multi 0 n) (hlm0 : multi = true → lm = 0) (hI : Ints w0 va k v) (hB0 : w0.heap.size ≤ B) (hc : isCap c) (hn : n < 2 ^ 32) (hlm : lm < 2 ^ 32) (hsh : sh < 2 ^ 32) (hk : k ≤ 1048576) (hkv : k ≤ vcap) (hf : fl < 4) (hg : g < 2 ^ 62)
    (hgt : gt.isSome → 1 ≤ k → k ≤ c → n + k ≤ g + c) (hS : SentB aB aC aN w0) :
    Calls Ybaf.prog 7 #[.pointer (some ⟨R, 0, none⟩), .slice va k vcap] w fun e w' => ∃ ev, e = .returned ev ∧ After B R S c pb gt fl n k nx lm sh multi s v p g wz w0 w' ∧ Er c k fl aB aC aN ev w' := by
  have hcl := hc.le
  -- nothing happened
  have same : ∀ w', Rg B R S c pb gt (word fl n) nx lm sh s p g wz w0 w' → suc c k fl = false → wri c k fl n lm multi = false → After B R S c pb gt fl n k nx lm sh multi s v p g wz w0 w' := fun w' hr h1 h2 => by
    unfold After
    simp only [h1, h2, cond_false, Bool.and_false, Bool.false_and]
    exact hr
  by_cases hk0 : k = 0
  · subst hk0
    refine (pb_zero R va vcap w).mono ?_
    rintro e w' ⟨rfl, rfl⟩
    exact ⟨_, rfl, same _ h (by simp [suc]) (by simp [wri]), .inl ⟨rfl, rfl⟩⟩
  by_cases hkc : c < k
  · obtain ⟨sB, hsB⟩ := (hS.below h.below hB0).sB
    refine (pb_big F R c k vcap va aB sB w (by rw [h.below.tape]; exact hF) h.c2 hc hk hkc (hS.below h.below hB0).g0 hsB).mono ?_
    rintro e w' ⟨b, rfl, h1, h2⟩
    exact ⟨_, rfl, same _ (h.next h2) (by simp [suc]; omega) (by simp [wri]; omega), .inr (.inl ⟨hkc, b, rfl, h1⟩)⟩
  have hin : 1 ≤ k ∧ k ≤ c := by omega
  have hw0 : ∀ w1, Rg B R S c pb gt (word fl n) nx lm sh s p g wz w0 w1 → SentB aB aC aN w1 := fun w1 hr => hS.below hr.below hB0
  by_cases hfl : fl = 0
  · subst hfl
    have hs : suc c k 0 = true := by simp [suc]; omega
    have hw : wri c k 0 n lm multi = true := by simp [wri]; omega
    rw [word_zero] at h
    cases multi with
    | true =>
      obtain ⟨Pb, rfl⟩ := Option.isSome_iff_exists.1 hpb
      obtain rfl := hlm0 rfl
      simp only [cond_true] at hnx
      subst hnx
      refine (pb_slow (fun u w' => u = .nilIface ∧ Rg B R S c (some Pb) gt (n + k) 0 0 (raise sh (n + k) (newLim c gt g)) (wrt s v n k c) (mk p n k c 0) g wz w0 w') h va k vcap v hI hB0 hc hn (by decide) (by decide) hin.1 hin.2 hkv (by omega)
        (fun w1 hr => claim_multi_open hr k hc hn hin.1 hin.2 hg (fun h => hgt h hin.1 hin.2)) (fun w1 hr => (commit_multi k hr hc hn hin.2).mono fun e w' ⟨h1, h2⟩ => ⟨_, h1, rfl, h2⟩)).mono ?_
      rintro e w' ⟨u, rfl, rfl, hr⟩
      refine ⟨_, rfl, ?_, .inr (.inr (.inl ⟨hin, rfl, rfl⟩))⟩
      unfold After
      simp only [hs, hw, cond_true, cond_false, Bool.and_false, Bool.false_and, Bool.true_and, Bool.not_true]
      have e1 : cond (decide (sh < n + k)) (newLim c gt g) sh = raise sh (n + k) (newLim c gt g) := by
        unfold raise; by_cases hh : sh < n + k <;> simp [hh]
      rw [e1]
      exact hr
    | false =>
      obtain rfl : pb = none := by cases pb with | none => rfl | some q => cases hpb
      simp only [cond_false] at hnx
      have hnx2 : n = nx := hnx.symm
      subst hnx2
      have fin : ∀ w', Rg B R S c none gt (n + k) (n + k) (raise lm (n + k) (newLim c gt g)) sh (wrt s v n k c) p g wz w0 w' → After B R S c none gt 0 n k n lm sh false s v p g wz w0 w' := fun w' hr => by
        unfold After
        simp only [hs, hw, cond_true, cond_false, Bool.and_false, Bool.false_and, Bool.true_and, Bool.and_true, Bool.not_false]
        have e1 : cond (decide (lm < n + k)) (newLim c gt g) lm = raise lm (n + k) (newLim c gt g) := by
          unfold raise; by_cases hh : lm < n + k <;> simp [hh]
        rw [e1]
        exact hr
      by_cases hA : n + k ≤ lm
      · have er : raise lm (n + k) (newLim c gt g) = lm := if_neg (by omega)
        rw [er] at fin
        by_cases hB : n % c + k ≤ c
        · refine (pb_fast_open h va k vcap v hI hB0 hc hn (by omega) hin.1 hin.2 hA hB).mono ?_
          rintro e w' ⟨rfl, hr⟩
          exact ⟨_, rfl, fin _ hr, .inr (.inr (.inl ⟨hin, rfl, rfl⟩))⟩
        · refine (pb_slow (fun u w' => u = .nilIface ∧ Rg B R S c none gt (n + k) (n + k) lm sh (wrt s v n k c) p g wz w0 w') h va k vcap v hI hB0 hc hn hn (by omega) hin.1 hin.2 hkv (fun e => hB e.2)
            (fun w1 hr => (claim_cached hr k hn (by omega) hA).mono fun e w' ⟨h1, h2⟩ => ⟨h1, by rw [h2]; exact hr⟩) (fun w1 hr => (commit_single_open hr k hn (by omega)).mono fun e w' ⟨h1, h2⟩ => ⟨_, h1, rfl, h2⟩)).mono ?_
          rintro e w' ⟨u, rfl, rfl, hr⟩
          exact ⟨_, rfl, fin _ hr, .inr (.inr (.inl ⟨hin, rfl, rfl⟩))⟩
      · have er : raise lm (n + k) (newLim c gt g) = newLim c gt g := if_pos (by omega)
        rw [er] at fin
        refine (pb_slow (fun u w' => u = .nilIface ∧ Rg B R S c none gt (n + k) (n + k) (newLim c gt g) sh (wrt s v n k c) p g wz w0 w') h va k vcap v hI hB0 hc hn hn (by omega) hin.1 hin.2 hkv (fun e => hA e.1)
          (fun w1 hr => claim_single_open hr k hc hn hin.1 hin.2 (by omega) hg (fun h => hgt h hin.1 hin.2)) (fun w1 hr => (commit_single_open hr k hn (by omega)).mono fun e w' ⟨h1, h2⟩ => ⟨_, h1, rfl, h2⟩)).mono ?_
        rintro e w' ⟨u, rfl, rfl, hr⟩
        exact ⟨_, rfl, fin _ hr, .inr (.inr (.inl ⟨hin, rfl, rfl⟩))⟩
  · have hs : suc c k fl = false := by simp [suc]; omega
    cases multi with
    | true =>
      obtain ⟨Pb, rfl⟩ := Option.isSome_iff_exists.1 hpb
      obtain rfl := hlm0 rfl
      simp only [cond_true] at hnx
      subst hnx
      refine (pb_fail h va k vcap (if fl / 2 = 0 then aN else aC) hc (by decide) (by decide) hin.1 hin.2 (by omega) (fun w1 hr => claim_multi_shut hr k hf (by omega) hfl aC aN (hw0 w1 hr).g1 (hw0 w1 hr).g2)).mono ?_
      rintro e w' ⟨rfl, hr⟩
      exact ⟨_, rfl, same _ hr hs (by simp [wri]; omega), .inr (.inr (.inr ⟨hin, hfl, rfl⟩))⟩
    | false =>
      obtain rfl : pb = none := by cases pb with | none => rfl | some q => cases hpb
      simp only [cond_false] at hnx
      have hnx2 : n = nx := hnx.symm
      subst hnx2
      by_cases hA : n + k ≤ lm
      · have hw : wri c k fl n lm false = true := by simp [wri]; omega
        have fin : ∀ w', Rg B R S c none gt (word fl n) n lm sh (wrt s v n k c) p g wz w0 w' → After B R S c none gt fl n k n lm sh false s v p g wz w0 w' := fun w' hr => by
          unfold After
          simp only [hs, hw, cond_true, cond_false, Bool.and_false, Bool.false_and]
          exact hr
        by_cases hB : n % c + k ≤ c
        · refine (pb_fast_shut h va k vcap v hI hB0 hc hn (by omega) hin.1 hin.2 hA hB hf hfl aC aN hS.g1 hS.g2).mono ?_
          rintro e w' ⟨rfl, hr⟩
          exact ⟨_, rfl, fin _ hr, .inr (.inr (.inr ⟨hin, hfl, rfl⟩))⟩
        · refine (pb_slow (fun u w' => u = shutE fl aC aN ∧ Rg B R S c none gt (word fl n) n lm sh (wrt s v n k c) p g wz w0 w') h va k vcap v hI hB0 hc hn hn (by omega) hin.1 hin.2 hkv (fun e => hB e.2)
            (fun w1 hr => (claim_cached hr k hn (by omega) hA).mono fun e w' ⟨h1, h2⟩ => ⟨h1, by rw [h2]; exact hr⟩)
            (fun w1 hr => (commit_single_shut hr k hn (by omega) hf hfl aC aN (hS.below hr.below hB0).g1 (hS.below hr.below hB0).g2).mono fun e w' ⟨h1, h2⟩ => ⟨_, h1, rfl, by rw [h2]; exact hr⟩)).mono ?_
          rintro e w' ⟨u, rfl, rfl, hr⟩
          exact ⟨_, rfl, fin _ hr, .inr (.inr (.inr ⟨hin, hfl, rfl⟩))⟩
      · refine (pb_fail h va k vcap (if fl / 2 = 0 then aN else aC) hc hn (by omega) hin.1 hin.2 hA (fun w1 hr => claim_single_shut hr k hn (by omega) (by omega) hf hfl aC aN (hw0 w1 hr).g1 (hw0 w1 hr).g2)).mono ?_
        rintro e w' ⟨rfl, hr⟩
        exact ⟨_, rfl, same _ hr hs (by simp [wri]; omega), .inr (.inr (.inr ⟨hin, hfl, rfl⟩))⟩
end Go.Proofs.YbulkecmmFmt
