import Derived.Test.YbulkeclyStart
import Derived.Deep.MidRow
import Derived.Deep.RegionHeld3
import Derived.Deep.LoopGhost
import Derived.Deep.Draws
namespace Go.Proofs.Ybulkecly
open Go.RowKit

theorem Yba.size29 : (Yba.prog.info? 29).map (·.size) = some 18 := by kernel_rfl

/-- The n cells from offset o of block b on, if all of them are there. -/
def rowAt (w : World) (b o n : Nat) : Option (List Value) :=
  if ∀ j, j < n → (w.cell? ⟨b, o + j, none⟩).isSome = true then some ((List.range n).map fun j => (w.cell? ⟨b, o + j, none⟩).getD undef) else none

theorem rowAt_of {w : World} {b o n : Nat} {cs : List Value} (h : w.rangeAt b o cs) (hl : cs.length = n) : rowAt w b o n = some cs := by
  subst hl
  unfold rowAt
  rw [if_pos (fun j hj => h.isSome j hj)]
  congr 1
  apply List.ext_getElem?
  intro j
  by_cases hj : j < cs.length
  · rw [List.getElem?_map, List.getElem?_range hj]
    simp only [Option.map_some, h j _ (List.getElem?_eq_getElem hj), Option.getD_some, List.getElem?_eq_getElem hj]
  · rw [List.getElem?_eq_none (by simpa using Nat.le_of_not_lt hj), List.getElem?_eq_none (Nat.le_of_not_lt hj)]

theorem of_rowAt {w : World} {b o n : Nat} {cs : List Value} (h : rowAt w b o n = some cs) : w.rangeAt b o cs ∧ cs.length = n := by
  unfold rowAt at h
  split at h
  · rename_i hall
    obtain rfl := Option.some.inj h
    refine ⟨fun j v hv => ?_, by simp⟩
    have hj : j < n := by have := (List.getElem?_eq_some_iff.1 hv).1; simpa using this
    obtain ⟨u, hu⟩ := Option.isSome_iff_exists.1 (hall j hj)
    rw [List.getElem?_map, List.getElem?_range hj] at hv
    simp only [Option.map_some, hu, Option.getD_some, Option.some.injEq] at hv
    rw [hu, hv]
  · cases h

theorem rowAt_drew (w : World) (b o n : Nat) : rowAt w.drew b o n = rowAt w b o n := rfl
theorem rowAt_drewN (w : World) (b o n q : Nat) : rowAt (w.drewN q) b o n = rowAt w b o n := rfl

/-- What an operation does, behind a name that the walk does not open. -/
def raw (P : Program) (ρ : Operand → Value) (o : Oper) (w : World) : Result Next := (execOp ρ o).run P w

/-- A load of a whole slot (18 cells). -/
def load29 (v : Value) (w : World) (r : Result Next) : Result Next :=
  match v with
  | .pointer (some ⟨b, o, none⟩) => (rowAt w b o 18).elim r (fun cs => .ok (.value (.agg cs.toArray)) w)
  | _ => r

theorem load29_at (b o : Nat) (w : World) (r : Result Next) : load29 (.pointer (some ⟨b, o, none⟩)) w r = (rowAt w b o 18).elim r (fun cs => .ok (.value (.agg cs.toArray)) w) := rfl

theorem exec_load29 (ρ : Operand → Value) (d : Option Tmp) (x : Operand) (ty : TypeId) (pos : String) (af : Array Edge) (g : Option (Nat × Bool)) (w : World) :
    (execOp ρ ⟨d, .load 29 x, ty, pos, af, g⟩).run Yba.prog w = load29 (ρ x) w (raw Yba.prog ρ ⟨d, .load 29 x, ty, pos, af, g⟩ w) := by
  unfold load29
  split
  · rename_i b o hx
    cases hr : rowAt w b o 18 with
    | none => rfl
    | some cs =>
      obtain ⟨h, hl⟩ := of_rowAt hr
      simp only [Option.elim_some]
      unfold execOp
      simp only [hx, Sem.run_bind, run_loadAt_mid w b o 29 cs _ h Yba.underlying29 rfl (by rw [Yba.size29, hl]), Result.andThen_ok, Sem.run_pure]
  · rfl

theorem setCells_drew (b : Nat) : ∀ (vs : List Value) (o : Nat) (w : World), w.drew.setCells b o vs = (w.setCells b o vs).drew
  | [], _, _ => rfl
  | v :: r, o, w => by
    rw [World.setCells, World.setCells]
    exact setCells_drew b r (o + 1) (w.setCell ⟨b, o, none⟩ v)

/-- A slot's 18 cells. -/
def okRow (xs : Array Value) : Bool := xs.size == 18 && xs.all (·.oneCell')
/-- n cells from o on are there and may be written. -/
def freeAt (w : World) (b o n : Nat) : Bool := decide (∀ j, j < n → (w.cell? ⟨b, o + j, none⟩).isSome = true ∧ w.frozen? ⟨b, o + j, none⟩ = false)
theorem freeAt_of {w : World} {b o n : Nat} (h : w.there b o n) : freeAt w b o n = true := by unfold freeAt; exact decide_eq_true (fun j hj => h j hj)
theorem of_freeAt {w : World} {b o n : Nat} (h : freeAt w b o n = true) : w.there b o n := by unfold freeAt at h; exact fun j hj => of_decide_eq_true h j hj
theorem freeAt_drew (w : World) (b o n : Nat) : freeAt w.drew b o n = freeAt w b o n := rfl
theorem okRow_of {cs : List Value} (hl : cs.length = 18) (h : ∀ v ∈ cs, v.oneCell' = true) : okRow cs.toArray = true := by
  have := all_oneCell_toArray h
  unfold okRow
  rw [this]; simp [hl]

/-- What an operation does, behind a name that the walk does not open. -/
def wpRaw (P : Program) (o : Oper) (a : Act) (w : World) (K : Act → World → Prop) (Q : Exit → Act → World → Prop) : Prop := o.wp P a w K Q

/-- A store of a whole slot. -/
def store29 (p v : Value) (w : World) (k : World → Prop) (r : Prop) : Prop :=
  match p, v with
  | .pointer (some ⟨b, o, none⟩), .agg xs => if okRow xs = true ∧ freeAt w b o 18 = true then k (w.setCells b o xs.toList) else r
  | _, _ => r

theorem store29_at (b o : Nat) (xs : Array Value) (w : World) (k : World → Prop) (r : Prop) :
    store29 (.pointer (some ⟨b, o, none⟩)) (.agg xs) w k r = if okRow xs = true ∧ freeAt w b o 18 = true then k (w.setCells b o xs.toList) else r := rfl

theorem wp_store29 (d : Option Tmp) (x y : Operand) (ty : TypeId) (pos : String) (af : Array Edge) (g : Option (Nat × Bool)) (a : Act) (w : World) (K : Act → World → Prop) (Q : Exit → Act → World → Prop) :
    Oper.wp Yba.prog ⟨d, .store 29 x y, ty, pos, af, g⟩ a w K Q = store29 (a.eval x) (a.eval y) w (fun w' => K (a.put d undef) w') (wpRaw Yba.prog ⟨d, .store 29 x y, ty, pos, af, g⟩ a w K Q) := by
  unfold store29
  split
  · rename_i b o xs hx hy
    split
    · rename_i hc
      obtain ⟨h1, h2⟩ := hc
      have h3 : xs.size = 18 ∧ xs.all (·.oneCell') = true := by simpa [okRow] using h1
      have hrun := run_storeAt_mid (P := Yba.prog) w b o 29 xs (by rw [h3.1]; exact of_freeAt h2) (by rw [Yba.size29, h3.1]) h3.2
      unfold Oper.wp execOp
      simp only [hx, hy, Sem.run_bind, hrun, Result.andThen_ok, Sem.run_pure]
      rfl
    · rfl
  · rfl
end Go.Proofs.Ybulkecly
