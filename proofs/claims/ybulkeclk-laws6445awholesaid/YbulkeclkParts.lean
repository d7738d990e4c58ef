import Derived.Test.YbulkeclkRepl
import Derived.Deep.MidRow
import Derived.Deep.Draws
namespace Go.Proofs.Ybulkeclk
open Go.RowKit

/-- What a row of the call's own gives: its cells are there, and may be written. -/
theorem there_of_owns {w : World} {base e sz g n cap : Nat} {xs : List Value} (h : w.ownsRow base e sz (.slice (some ⟨g, 0, none⟩) n cap) n xs) : w.there g 0 (n * sz) := fun j hj => by
  rw [Nat.zero_add]
  refine ⟨?_, h.frozenAt j⟩
  rw [h.cellAt j hj, List.getElem?_eq_getElem (by rw [h.1]; exact hj)]; rfl

/-- The first k segments are laid. -/
def Laid (s t : Nat → Int) (B k : Nat) (w : World) : Prop :=
  ∀ j, j < k → w.cell? ⟨B, j * 2, none⟩ = some (.int .i64 (s j)) ∧ w.cell? ⟨B, j * 2 + 1, none⟩ = some (.int .i64 (t j))

theorem laid_zero (s t : Nat → Int) (B : Nat) (w : World) : Laid s t B 0 w := fun j hj => absurd hj (by omega)

theorem there_setCell {w : World} {b o n : Nat} (h : w.there b o n) (a : Addr) (v : Value) : (w.setCell a v).there b o n := fun j hj => by
  obtain ⟨h1, h2⟩ := h j hj
  obtain ⟨u, hu⟩ := Option.isSome_iff_exists.1 h1
  refine ⟨?_, by rw [World.frozen?_setCell]; exact h2⟩
  by_cases e : a = ⟨b, o + j, none⟩
  · subst e; rw [World.cell?_setCell_same _ _ _ hu]; rfl
  · rw [World.cell?_setCell_other _ _ _ _ e, hu]; rfl

theorem laid_step {s t : Nat → Int} {B k n : Nat} {w : World} (h : Laid s t B k w) (ht : w.there B 0 (n * 2)) (hk : k < n) :
    Laid s t B (k + 1) ((w.setCell ⟨B, k * 2, none⟩ (.int .i64 (s k))).setCell ⟨B, k * 2 + 1, none⟩ (.int .i64 (t k))) := fun j hj => by
  obtain ⟨u, hu⟩ := Option.isSome_iff_exists.1 (ht (k * 2) (by omega)).1
  obtain ⟨u', hu'⟩ := Option.isSome_iff_exists.1 (ht (k * 2 + 1) (by omega)).1
  rw [Nat.zero_add] at hu hu'
  have hne : (⟨B, k * 2, none⟩ : Addr) ≠ ⟨B, k * 2 + 1, none⟩ := by simp
  by_cases e : j = k
  · subst e
    refine ⟨?_, ?_⟩
    · rw [World.cell?_setCell_other _ _ _ _ (by simp), World.cell?_setCell_same _ _ _ hu]
    · rw [World.cell?_setCell_same (w := w.setCell ⟨B, j * 2, none⟩ (.int .i64 (s j))) _ _ (by rw [World.cell?_setCell_other _ _ _ _ hne]; exact hu')]
  · obtain ⟨h1, h2⟩ := h j (by omega)
    refine ⟨?_, ?_⟩
    · rw [World.cell?_setCell_other _ _ _ _ (by intro h; injection h; omega), World.cell?_setCell_other _ _ _ _ (by intro h; injection h; omega)]; exact h1
    · rw [World.cell?_setCell_other _ _ _ _ (by intro h; injection h; omega), World.cell?_setCell_other _ _ _ _ (by intro h; injection h; omega)]; exact h2

/-- The head as 'newHead' leaves it: of its cells two are written behind. -/
theorem head_any (w : World) : Calls Yba.prog 4 #[] w fun e w' => e = .returned (.pointer (some ⟨w.heap.size + 1, 0, none⟩)) ∧ Below w.heap.size w w' ∧ w.heap.size + 1 < w'.heap.size ∧
    (∃ u4 u5, w'.cell? ⟨w.heap.size + 1, 4, none⟩ = some u4 ∧ w'.cell? ⟨w.heap.size + 1, 5, none⟩ = some u5) ∧ w'.frozen? ⟨w.heap.size + 1, 4, none⟩ = false ∧ w'.frozen? ⟨w.heap.size + 1, 5, none⟩ = false := by
  have hmm := @run_makeMap Yba.prog
  go_enter Yba.func4, Yba.ntmps4
  go_wp2
  go_ret
  refine ⟨rfl, ((Below.refl _ _).alloc (Nat.le_refl _) _).alloc (by simp) _, by simp, ⟨.int .i64 (-9223372036854775808), .slice none 0 0, ?_, ?_⟩, ?_, ?_⟩
  all_goals simp [go_sem]

/-- What stands before the scans begin. -/
structure Ready (s t : Nat → Int) (B H n : Nat) (mv : Int) (W w : World) : Prop where
  below : Below W.heap.size W w
  bs : B < w.heap.size
  hs : H < w.heap.size
  c4 : w.cell? ⟨H, 4, none⟩ = some (.int .i64 mv)
  c5 : w.cell? ⟨H, 5, none⟩ = some (.slice (some ⟨B, 0, none⟩) n n)
  laid : Laid s t B n w

theorem Laid.below {s t : Nat → Int} {B k X : Nat} {w w' : World} (h : Laid s t B k w) (hb : Below X w w') (hB : B < X) : Laid s t B k w' := fun j hj =>
  ⟨(hb.cell (by exact hB)).trans (h j hj).1, (hb.cell (by exact hB)).trans (h j hj).2⟩

theorem Ready.next {s t : Nat → Int} {B H n : Nat} {mv : Int} {W w w' : World} (h : Ready s t B H n mv W w) (hW : W.heap.size ≤ w.heap.size) (hb : Below w.heap.size w w') : Ready s t B H n mv W w' :=
  ⟨h.below.trans (hb.mono hW), Nat.lt_of_lt_of_le h.bs hb.size, Nat.lt_of_lt_of_le h.hs hb.size, (hb.cell (by exact h.hs)).trans h.c4, (hb.cell (by exact h.hs)).trans h.c5, h.laid.below hb h.bs⟩

theorem ready_mk {s t : Nat → Int} {B n H : Nat} {mv : Int} {W w w2 : World} {u4 u5 : Value} (hb : Below W.heap.size W w) (hBs : B < w.heap.size) (hl : Laid s t B n w) (hW : W.heap.size ≤ w.heap.size) (hH : w.heap.size < H)
    (hb2 : Below w.heap.size w w2) (hs : H < w2.heap.size) (e4 : w2.cell? ⟨H, 4, none⟩ = some u4) (e5 : w2.cell? ⟨H, 5, none⟩ = some u5) :
    Ready s t B H n mv W ((w2.setCell ⟨H, 4, none⟩ (.int .i64 mv)).setCell ⟨H, 5, none⟩ (.slice (some ⟨B, 0, none⟩) n n)) := by
  have hb3 : Below w.heap.size w ((w2.setCell ⟨H, 4, none⟩ (.int .i64 mv)).setCell ⟨H, 5, none⟩ (.slice (some ⟨B, 0, none⟩) n n)) := (hb2.setCell (Nat.le_of_lt hH) _).setCell (Nat.le_of_lt hH) _
  refine ⟨hb.trans (hb3.mono hW), Nat.lt_of_lt_of_le hBs hb3.size, by simpa using hs, ?_, ?_, hl.below hb3 hBs⟩
  · rw [World.cell?_setCell_other _ _ _ _ (by simp), World.cell?_setCell_same _ _ _ e4]
  · rw [World.cell?_setCell_same (w := w2.setCell ⟨H, 4, none⟩ (.int .i64 mv)) _ _ (by rw [World.cell?_setCell_other _ _ _ _ (by simp)]; exact e5)]

theorem Ready.drewN {s t : Nat → Int} {B H n : Nat} {mv : Int} {W w : World} (h : Ready s t B H n mv W w) (q : Nat) : Ready s t B H n mv W (w.drewN q) :=
  ⟨⟨h.below.os, h.below.tape, h.below.output, h.below.size, h.below.block⟩, h.bs, h.hs, h.c4, h.c5, h.laid⟩

/-- What the scan from the newest back has found in m .. n-1. -/
def FoundIs (t : Nat → Int) (n : Nat) (mv : Int) (m : Nat) (f : Int) : Prop :=
  (f = -1 ∧ ∀ j, m ≤ j → j < n → t j < mv) ∨ (∃ x : Nat, f = x ∧ m ≤ x ∧ x < n ∧ mv ≤ t x ∧ ∀ j, m ≤ j → j < x → t j < mv)

theorem found_start (t : Nat → Int) (n : Nat) (mv : Int) : FoundIs t n mv n (-1) := .inl ⟨rfl, fun j h1 h2 => absurd h1 (by omega)⟩
theorem found_hit {t : Nat → Int} {n : Nat} {mv : Int} {m : Nat} (hm : m < n) (hge : mv ≤ t m) : FoundIs t n mv m (m : Int) :=
  .inr ⟨m, rfl, Nat.le_refl _, hm, hge, fun j h1 h2 => absurd h1 (by omega)⟩
theorem found_miss {t : Nat → Int} {n : Nat} {mv : Int} {m : Nat} {f : Int} (hlt : t m < mv) (h : FoundIs t n mv (m + 1) f) : FoundIs t n mv m f := by
  rcases h with ⟨rfl, h⟩ | ⟨x, rfl, h1, h2, h3, h4⟩
  · refine .inl ⟨rfl, fun j hj hn => ?_⟩
    by_cases e : j = m
    · subst e; exact hlt
    · exact h j (by omega) hn
  · refine .inr ⟨x, rfl, by omega, h2, h3, fun j hj hx => ?_⟩
    by_cases e : j = m
    · subst e; exact hlt
    · exact h4 j (by omega) hx

theorem repl_none {s t : Nat → Int} {n : Nat} {mv cur r : Int} (h : ∀ j, j < n → t j < mv) (hr : ReplIs s t n mv cur r) : r = wrap64 (cur - 1) := by
  rcases hr with ⟨j, hj, _, h2, _⟩ | ⟨_, e⟩
  · have := h j hj; omega
  · exact e
theorem repl_some {s t : Nat → Int} {n : Nat} {mv cur r : Int} {x : Nat} (hx : x < n) (hge : mv ≤ t x) (h : ∀ j, j < x → t j < mv) (hr : ReplIs s t n mv cur r) : r = wrap64 (min cur (s x) - 1) := by
  rcases hr with ⟨j, hj, h1, h2, e⟩ | ⟨h1, _⟩
  · rcases Nat.lt_trichotomy j x with g | g | g
    · have := h j g; omega
    · subst g; exact e
    · have := h1 x g; omega
  · have := h1 x hx; omega
end Go.Proofs.Ybulkeclk
