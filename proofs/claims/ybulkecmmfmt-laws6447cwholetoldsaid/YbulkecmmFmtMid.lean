/-
  What holds behind declare, and what the law's last part asks of it.
-/
import Derived.Test.YbulkecmmFmtStep
set_option linter.unusedVariables false
set_option linter.unusedSimpArgs false
namespace Go.Proofs.YbulkecmmFmt
open Go.RowKit Go.Extern.Stop Go.Stop Go.Extern

theorem nodup_rvN {P : Nat → Pd} {ns : List Nat} (h : (ns.map fun i => (P i).name).Nodup) : (rvN P ns).Nodup := by
  unfold rvN; exact List.pairwise_reverse.2 (h.imp fun h => Ne.symm h)
theorem rvN_get {P : Nat → Pd} {ns : List Nat} {k : Nat} (hk : k < ns.length) : (rvN P ns).reverse[k]? = some (P (ns.getD k 0)).name := by
  unfold rvN
  rw [List.reverse_reverse, List.getElem?_map, List.getElem?_eq_getElem hk]
  simp [List.getD_eq_getElem?_getD, List.getElem?_eq_getElem hk]

theorem Pre.below {w w' : World} {pa : Option Addr} {N X : Nat} {P : Nat → Pd} (h : Pre w pa N P) (hb : Below X w w') (hX : w.heap.size ≤ X) : Pre w' pa N P := fun i hi => by
  obtain ⟨b, o, e, h1, h2, h3, h4⟩ := h i hi
  have up : ∀ {ad : Addr} {v : Value}, w.cell? ad = some v → w'.cell? ad = some v := fun {ad v} h => (hb.cell (by have := World.block_lt_of_cell? w _ h; omega)).trans h
  exact ⟨b, o, e, up h1, up h2, up h3, h4.below hb hX⟩

/-- Is there a dependency that is listed twice? -/
def dupB (f : Nat → ByteArray) (n : Nat) : Bool := (List.range n).any fun k => memB (f k) (revL f k)
theorem dupB_true {f : Nat → ByteArray} {n : Nat} : dupB f n = true ↔ ∃ k, k < n ∧ memB (f k) (revL f k) = true := by
  simp [dupB, List.any_eq_true, List.mem_range]
theorem dupB_of_pair {f : Nat → ByteArray} {n a b : Nat} (hab : a < b) (hb : b < n) (h : f a = f b) : dupB f n = true :=
  dupB_true.2 ⟨b, hb, memB_iff.2 (mem_revL.2 ⟨a, hab, h⟩)⟩
theorem dupB_of_none {f : Nat → ByteArray} {n : Nat} (h : ∀ a b, a < b → b < n → f a ≠ f b) : dupB f n = false := by
  cases hd : dupB f n with
  | false => rfl
  | true =>
    obtain ⟨k, hk, hm⟩ := dupB_true.1 hd
    obtain ⟨j, hj, e⟩ := mem_revL.1 (memB_iff.1 hm)
    exact absurd e (h j k hj hk)

structure Mid (G N : Nat) (P : Nat → Pd) (ns : List Nat) (l : List Dc) (vN vK : Value) (mo : Option Nat) (po : Option Addr) (w0 : World) (fz : Bool) (aF aD : Addr) (nm : ByteArray) (da : Option Addr) (n dc : Nat) (f : Nat → ByteArray) (fv : Value) (ca : Option Addr)
    (ev : Value) (l' : List Dc) (vD' : Value) (mo' : Option Nat) (r' : List ByteArray) (w : World) : Prop where
  full : Full G N P ns l' vN vK vD' mo' po r' w0 w
  out : Out fz aF aD nm n f (nm, .slice da n dc, fv) l mo (rvN P ns) ev l' mo' r' w
  sa : Strs w da n f
  sc : Strs w ca n f
  plan : Plan G fz po w
  sent : Sent aF aD w

theorem Mid.next {G N : Nat} {P : Nat → Pd} {ns : List Nat} {l : List Dc} {vN vK : Value} {mo : Option Nat} {po : Option Addr} {w0 : World} {fz : Bool} {aF aD : Addr} {nm : ByteArray} {da : Option Addr} {n dc : Nat} {f : Nat → ByteArray} {fv : Value} {ca : Option Addr} {ev : Value} {l' : List Dc} {vD' : Value} {mo' : Option Nat} {r' : List ByteArray} {w w' : World}
    (h : Mid G N P ns l vN vK mo po w0 fz aF aD nm da n dc f fv ca ev l' vD' mo' r' w) (hb : Below w.heap.size w w') : Mid G N P ns l vN vK mo po w0 fz aF aD nm da n dc f fv ca ev l' vD' mo' r' w' :=
  ⟨h.full.next hb, h.out.next hb, h.sa.below hb (Nat.le_refl _), h.sc.below hb (Nat.le_refl _), h.plan.next hb, h.sent.below hb (Nat.le_refl _)⟩

/-- What the index says of the names that were laid in. -/
theorem Mid.index {G N : Nat} {P : Nat → Pd} {ns : List Nat} {l : List Dc} {vN vK : Value} {mo : Option Nat} {po : Option Addr} {w0 : World} {fz : Bool} {aF aD : Addr} {nm : ByteArray} {da : Option Addr} {n dc : Nat} {f : Nat → ByteArray} {fv : Value} {ca : Option Addr} {ev : Value} {l' : List Dc} {vD' : Value} {mo' : Option Nat} {r' : List ByteArray} {w : World}
    (h : Mid G N P ns l vN vK mo po w0 fz aF aD nm da n dc f fv ca ev l' vD' mo' r' w) : r'.Nodup ∧ (∀ k, k < ns.length → r'.reverse[k]? = some (P (ns.getD k 0)).name) ∧ l.length ≤ l'.length ∧ l'.length ≤ l.length + 1 := by
  have hn := nodup_rvN h.full.nd
  rcases h.out with ⟨_, _, rfl, rfl, _⟩ | ⟨_, _, rfl, rfl, _⟩ | ⟨_, hm, _, _, rfl, rfl⟩
  · exact ⟨hn, fun k hk => rvN_get hk, Nat.le_refl _, by omega⟩
  · exact ⟨hn, fun k hk => rvN_get hk, Nat.le_refl _, by omega⟩
  · refine ⟨List.nodup_cons.2 ⟨memB_false.1 hm, hn⟩, fun k hk => ?_, by simp, by simp⟩
    rw [List.reverse_cons, List.getElem?_append_left (by simp [length_rvN]; exact hk)]
    exact rvN_get hk

/-- The law's closure: nothing was added. -/
theorem Mid.unch {G Gv Nv N vc dvc : Nat} {va dva : Option Addr} {P : Nat → Pd} {ns : List Nat} {l : List Dc} {vK : Value} {mo : Option Nat} {po : Option Addr} {w0 : World} {fz : Bool} {aF aD : Addr} {nm : ByteArray} {da : Option Addr} {n dc : Nat} {f : Nat → ByteArray} {fv : Value} {ca : Option Addr} {ev : Value} {l' : List Dc} {mo' : Option Nat} {r' : List ByteArray} {w : World}
    (h : Mid G N P ns l (.slice va ns.length vc) vK mo po w0 fz aF aD nm da n dc f fv ca ev l' (.slice dva l'.length dvc) mo' r' w) (hl : l'.length = ns.length) (hr : r' = rvN P ns) (h0 : ns.length = 0 → mo' = none) (hK : ns.length ≤ 1024) (hGv : Gv = G + 1) (hNv : Nv = G + 2) :
    Calls Ybaf.prog 18 #[.pointer (some ⟨Gv, 0, none⟩), .pointer (some ⟨Nv, 0, none⟩)] w fun e w' => e = .returned (.bool true) ∧ ∃ q, w' = w.drewN q := by
  have hb := h.full.gblk
  rw [hl] at hb
  subst hr
  exact unchanged_any G Gv Nv ns.length dvc vc 0 dva va mo' po (rvN P ns) w hb h.full.idx (nodup_rvN h.full.nd) (length_rvN P ns) (by omega) h0 (by rw [hGv]; exact h.full.cg) (by rw [hNv]; exact h.full.cn)

theorem declare_mid (F : Interp) (fz : Bool) (G N : Nat) (P : Nat → Pd) (ns : List Nat) (l : List Dc) (vN vK vD : Value) (mo : Option Nat) (po : Option Addr) (aF aD : Addr) (nm : ByteArray) (da : Option Addr) (n dc : Nat) (f : Nat → ByteArray) (fv : Value) (ca : Option Addr) (w0 w2 w : World)
    (hF : F.answers w0.tape) (h : Full G N P ns l vN vK vD mo po (rvN P ns) w0 w2) (hpl : Plan G fz po w2) (hcl : ClonedAny da n f ca w2 w) (hS : Sent aF aD w0) (h6 : 5 ≤ w0.heap.size) (hrl : l.length = ns.length) (hl : ns.length ≤ 1024) (hnm : nm.size ≤ maxLen)
    (hn : n ≤ 1024) (hst : Strs w0 da n f) (hfs : ∀ i, i < n → (f i).size ≤ maxLen) (hfv : fv.oneCell' = true) :
    Calls Ybaf.prog 14 #[.pointer (some ⟨G, 0, none⟩), .agg #[.string nm, .slice da n dc, fv]] w fun e w' =>
      ∃ ev l' vD' mo' r', e = .returned ev ∧ Mid G N P ns l vN vK mo po w0 fz aF aD nm da n dc f fv ca ev l' vD' mo' r' w' := by
  have hG := h.sz
  have h' := h.next hcl.below
  have hg2 := lt_of_heap h.nv
  obtain ⟨cs, t, hbD⟩ := hS.bD
  have hbl := lt_of_heap hbD
  have hdg : ∀ b o, 0 < n → da = some ⟨b, o, none⟩ → b ≠ G := fun b o h0 e => by
    obtain ⟨b', o', e', hc⟩ := hst 0 h0
    rw [e] at e'
    cases e'
    have : b < w0.heap.size := World.block_lt_of_cell? w0 _ hc
    omega
  have fin : ∀ (e : Ending) (w' : World), (∃ ev l' vD' mo' r', e = .returned ev ∧ Full G N P ns l' vN vK vD' mo' po r' w0 w' ∧ Out fz aF aD nm n f (nm, .slice da n dc, fv) l mo (rvN P ns) ev l' mo' r' w' ∧
        w.heap.size ≤ w'.heap.size ∧ ∀ (k : Nat) (cur : Array Value) (e : Nat), w.heap[k]? = some (.cells cur e (0, 0)) → e ≠ 89 → k ≠ G → w'.heap[k]? = w.heap[k]?) → ∃ ev l' vD' mo' r', e = .returned ev ∧ Mid G N P ns l vN vK mo po w0 fz aF aD nm da n dc f fv ca ev l' vD' mo' r' w' := by
    rintro e w' ⟨ev, l', vD', mo', r', rfl, h1, h2, h3, h4⟩
    refine ⟨ev, l', vD', mo', r', rfl, h1, h2, hst.below h1.below (by omega), hcl.strs.heap (fun x e => ?_), (hpl.next hcl.below).kept h4, hS.below h1.below (by omega)⟩
    obtain ⟨b, rfl, hb, cur, hc⟩ := hcl.own x e
    exact h4 b cur 9 hc (by decide) (by omega)
  exact (declare_any F fz G N P ns l vN vK vD mo po (rvN P ns) aF aD nm da n dc f fv w0 w (by rw [h'.below.tape]; exact hF) h' (hpl.next hcl.below) (hS.below h'.below (by omega)) (by omega) (by omega) (by rw [length_rvN, hrl]) (by omega) hnm hn (hst.below h'.below (by omega)) hfs hdg hfv).mono fin
end Go.Proofs.YbulkecmmFmt
