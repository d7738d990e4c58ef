/-
  (*Graph).declare on the law's graph, by one contract.
-/
import Derived.Test.YbulkecmmFmtFull
set_option linter.unusedVariables false
set_option linter.unusedSimpArgs false
namespace Go.Proofs.YbulkecmmFmt
open Go.RowKit Go.Extern.Stop Go.Stop Go.Extern

/-- The two sentinels in memory. -/
structure Sent (aF aD : Addr) (w : World) : Prop where
  gF : w.cell? ⟨3, 0, none⟩ = some (.iface 142 (.pointer (some aF)))
  gD : w.cell? ⟨4, 0, none⟩ = some (.iface 142 (.pointer (some aD)))
  bF : ∃ cs t, w.heap[aF.block]? = some (.cells cs t (0, 0))
  bD : ∃ cs t, w.heap[aD.block]? = some (.cells cs t (0, 0))
  sD : ∃ s, w.cell? aD = some (.string s)
  ne : aF ≠ aD
theorem Sent.below {aF aD : Addr} {w w' : World} {X : Nat} (h : Sent aF aD w) (hb : Below X w w') (hX : w.heap.size ≤ X) : Sent aF aD w' := by
  obtain ⟨cs, t, h1⟩ := h.bF
  obtain ⟨cs2, t2, h2⟩ := h.bD
  obtain ⟨s, h3⟩ := h.sD
  have up : ∀ {ad : Addr} {v : Value}, w.cell? ad = some v → w'.cell? ad = some v := fun {ad v} h => (hb.cell (by have := World.block_lt_of_cell? w _ h; omega)).trans h
  exact ⟨up h.gF, up h.gD, ⟨cs, t, (hb.block _ (by have := lt_of_heap h1; omega)).trans h1⟩, ⟨cs2, t2, (hb.block _ (by have := lt_of_heap h2; omega)).trans h2⟩, ⟨s, up h3⟩, h.ne⟩

/-- How declare ended. -/
def Out (fz : Bool) (aF aD : Addr) (nm : ByteArray) (n : Nat) (f : Nat → ByteArray) (d : Dc) (l : List Dc) (mo : Option Nat) (r : List ByteArray) (ev : Value) (l' : List Dc) (mo' : Option Nat) (r' : List ByteArray) (w : World) : Prop :=
  (fz = true ∧ ev = .iface 142 (.pointer (some aF)) ∧ l' = l ∧ r' = r ∧ mo' = mo) ∨
  (fz = false ∧ (memB nm r = true ∨ ∃ k, k < n ∧ memB (f k) (revL f k) = true) ∧ l' = l ∧ r' = r ∧ mo' = mo ∧ ∃ b, ev = .iface 128 (.pointer (some ⟨b, 0, none⟩)) ∧ w.cell? ⟨b, 1, none⟩ = some (.iface 142 (.pointer (some aD)))) ∨
  (fz = false ∧ memB nm r = false ∧ (∀ k, k < n → memB (f k) (revL f k) = false) ∧ ev = .nilIface ∧ l' = l ++ [d] ∧ r' = nm :: r)
theorem Out.next {fz : Bool} {aF aD : Addr} {nm : ByteArray} {n : Nat} {f : Nat → ByteArray} {d : Dc} {l l' : List Dc} {mo mo' : Option Nat} {r r' : List ByteArray} {ev : Value} {w w' : World} (h : Out fz aF aD nm n f d l mo r ev l' mo' r' w) (hb : Below w.heap.size w w') : Out fz aF aD nm n f d l mo r ev l' mo' r' w' := by
  rcases h with h | ⟨h1, h2, h3, h4, h5, b, h6, h7⟩ | h
  · exact .inl h
  · exact .inr (.inl ⟨h1, h2, h3, h4, h5, b, h6, (hb.cell (by exact World.block_lt_of_cell? w _ h7)).trans h7⟩)
  · exact .inr (.inr h)

/-- The plan's cell and the flag. -/
def Plan (G : Nat) (fz : Bool) (po : Option Addr) (w : World) : Prop := (fz = false ∧ po = none) ∨ (fz = true ∧ ∃ p c0 c1 c2, po = some ⟨p, 0, none⟩ ∧ w.heap[p]? = some (.cells #[c0, c1, c2] 94 (0, 0)) ∧ p ≠ G)

theorem Plan.next {G : Nat} {fz : Bool} {po : Option Addr} {w w' : World} (h : Plan G fz po w) (hb : Below w.heap.size w w') : Plan G fz po w' := by
  rcases h with h | ⟨h1, p, c0, c1, c2, h2, h3, h4⟩
  · exact .inl h
  · exact .inr ⟨h1, p, c0, c1, c2, h2, (hb.block p (lt_of_heap h3)).trans h3, h4⟩
/-- The plan's block outlives declare. -/
theorem Plan.kept {G : Nat} {fz : Bool} {po : Option Addr} {w w' : World} (h : Plan G fz po w) (hk : ∀ (k : Nat) (cur : Array Value) (e : Nat), w.heap[k]? = some (.cells cur e (0, 0)) → e ≠ 89 → k ≠ G → w'.heap[k]? = w.heap[k]?) : Plan G fz po w' := by
  rcases h with h | ⟨h1, p, c0, c1, c2, h2, h3, h4⟩
  · exact .inl h
  · exact .inr ⟨h1, p, c0, c1, c2, h2, (hk p _ _ h3 (by decide) h4).trans h3, h4⟩

theorem declare_any (F : Interp) (fz : Bool) (G N : Nat) (P : Nat → Pd) (ns : List Nat) (l : List Dc) (vN vK vD : Value) (mo : Option Nat) (po : Option Addr) (r : List ByteArray) (aF aD : Addr) (nm : ByteArray) (da : Option Addr) (n dc : Nat) (f : Nat → ByteArray) (fv : Value) (w0 w : World)
    (hF : F.answers w.tape) (h : Full G N P ns l vN vK vD mo po r w0 w) (hpl : Plan G fz po w) (hS : Sent aF aD w) (hag : aD.block < G) (h6 : 5 ≤ G) (hrl : r.length = l.length) (hl : l.length ≤ 1024) (hnm : nm.size ≤ maxLen)
    (hn : n ≤ 1024) (hst : Strs w da n f) (hfs : ∀ i, i < n → (f i).size ≤ maxLen) (hdg : ∀ b o, 0 < n → da = some ⟨b, o, none⟩ → b ≠ G) (hfv : fv.oneCell' = true) :
    Calls Ybaf.prog 14 #[.pointer (some ⟨G, 0, none⟩), .agg #[.string nm, .slice da n dc, fv]] w fun e w' =>
      ∃ ev l' vD' mo' r', e = .returned ev ∧ Full G N P ns l' vN vK vD' mo' po r' w0 w' ∧ Out fz aF aD nm n f (nm, .slice da n dc, fv) l mo r ev l' mo' r' w' ∧
        w.heap.size ≤ w'.heap.size ∧ ∀ (k : Nat) (cur : Array Value) (e : Nat), w.heap[k]? = some (.cells cur e (0, 0)) → e ≠ 89 → k ≠ G → w'.heap[k]? = w.heap[k]? := by
  have hg2 := lt_of_heap h.nv
  obtain ⟨s, hs⟩ := hS.sD
  have refu : ∀ e w', fz = false → (memB nm r = true ∨ ∃ k, k < n ∧ memB (f k) (revL f k) = true) → Refused aD w e w' → ∃ ev l' vD' mo' r', e = .returned ev ∧ Full G N P ns l' vN vK vD' mo' po r' w0 w' ∧ Out fz aF aD nm n f (nm, .slice da n dc, fv) l mo r ev l' mo' r' w' ∧
        w.heap.size ≤ w'.heap.size ∧ ∀ (k : Nat) (cur : Array Value) (e : Nat), w.heap[k]? = some (.cells cur e (0, 0)) → e ≠ 89 → k ≠ G → w'.heap[k]? = w.heap[k]? := by
    rintro e w' hfz hd ⟨b, text, rfl, hbk, _, hbl⟩
    exact ⟨_, l, vD, mo, r, rfl, h.next hbl, .inr (.inl ⟨hfz, hd, rfl, rfl, rfl, b, rfl, by rw [cell_of_row _ _ _ _ _ _ hbk]; rfl⟩), hbl.size, fun k cur e hc _ _ => hbl.block k (lt_of_heap hc)⟩
  rcases hpl with ⟨hfz, rfl⟩ | ⟨hfz, p, c0, c1, c2, rfl, hp, hpG⟩
  · cases hm : memB nm r with
    | true =>
      exact (declare_dup F G vD mo r aD s nm _ fv w hF h.gblk h6 h.idx hnm hm hS.gD hs (by omega)).mono fun e w' hr => refu e w' hfz (.inl hm) hr
    | false =>
      refine (declare_new F (G + 3) G l vD mo r aD s nm da n dc f fv w hF h.gblk h6 (by omega) hg2 h.rD h.idx hrl hl hnm hm hS.gD hs (by omega) hn hst hfs hdg hfv).mono ?_
      rintro e w' (⟨hd, hr⟩ | ⟨hnd, rfl, vD', mb, ha⟩)
      · exact refu e w' hfz (.inr hd) hr
      · refine ⟨_, _, vD', some mb, _, rfl, h.added ha, .inr (.inr ⟨hfz, hm, hnd, rfl, rfl, rfl⟩), ha.size, fun k cur e hc h1 h2 => ?_⟩
        refine ha.kept k (lt_of_heap hc) h2 (fun e2 => ?_) (other_block h.rD hc h1)
        have h3 := h.idx
        rw [← e2] at h3
        exact h3.not_cells hc rfl
  · refine (declare_frozen G p vD mo c0 c1 c2 (0, 0) aF nm _ fv w h.gblk hp (Ne.symm hpG) h6 hS.gF).mono ?_
    rintro e w' ⟨rfl, hbl⟩
    exact ⟨_, l, vD, mo, r, rfl, h.next hbl, .inl ⟨hfz, rfl, rfl, rfl, rfl⟩, hbl.size, fun k cur e hc _ _ => hbl.block k (lt_of_heap hc)⟩
end Go.Proofs.YbulkecmmFmt
