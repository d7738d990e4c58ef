/-
  LawS6447CWhole, walked.
-/
import Derived.Test.YbulkecmmFmtMid
import Derived.Deep.CutBlock
import Derived.Deep.CutRange
import Derived.Deep.RegionWith
import Derived.Deep.RegionLaw
set_option linter.unusedVariables false
set_option linter.unusedSimpArgs false
namespace Go.Proofs.YbulkecmmFmt
open Go.RowKit Go.Extern.Stop Go.Stop Go.Extern

set_option maxRecDepth 100000 in
theorem law_long (N pc n dc : Nat) (pa da : Option Addr) (fz nd : Bool) (name : ByteArray) (w : World) (h : ¬ (N ≤ 1024 ∧ n ≤ 1024)) :
    Calls Ybaf.prog 4 #[.slice pa N pc, .bool fz, .string name, .slice da n dc, .bool nd] w fun e w' => e = .returned (.bool true) ∧ Below w.heap.size w w' := by
  by_cases hN : N ≤ 1024
  · have hn : 1024 < n := by omega
    go_enter Ybaf.func4, Ybaf.ntmps4
    go_wp2
    go_ret
    exact ⟨rfl, Below.refl _ _⟩
  · have hn : 1024 < N := by omega
    go_enter Ybaf.func4, Ybaf.ntmps4
    go_wp2
    go_ret
    exact ⟨rfl, Below.refl _ _⟩

attribute [local go_sem] neq87 guard87 run_store_fnv eql77 make77

set_option maxRecDepth 100000 in
set_option maxHeartbeats 12000000 in
theorem law_c (F : Interp) (N pc n dc : Nat) (pa da : Option Addr) (fz nd : Bool) (name : ByteArray) (P : Nat → Pd) (f : Nat → ByteArray) (w : World) (hF : F.answers w.tape) (hN : N ≤ 1024) (hn : n ≤ 1024)
    (hP : Pre w pa N P) (hPn : ∀ i, i < N → (P i).n * 16 ≤ 140737488355328 ∧ (P i).name.size ≤ maxLen) (hst : Strs w da n f) (aF aD : Addr) (hS : Sent aF aD w) (h6 : 5 ≤ w.heap.size) (hnm : name.size ≤ maxLen) (hfs : ∀ i, i < n → (f i).size ≤ maxLen) :
    Calls Ybaf.prog 4 #[.slice pa N pc, .bool fz, .string name, .slice da n dc, .bool nd] w fun e w' => e = .returned (.bool true) ∧ Below w.heap.size w w' := by
  have HP : Hid (Pre w pa N P) := hP
  have HPn : Hid (∀ i, i < N → (P i).n * 16 ≤ 140737488355328 ∧ (P i).name.size ≤ maxLen) := hPn
  have HST : Hid (Strs w da n f) := hst
  have hN1 : decide (1024 < N) = false := by simp; omega
  have hn1 : decide (1024 < n) = false := by simp; omega
  have HSE : Hid (Sent aF aD w ∧ 5 ≤ w.heap.size ∧ name.size ≤ maxLen ∧ (∀ i, i < n → (f i).size ≤ maxLen) ∧ F.answers w.tape) := ⟨hS, h6, hnm, hfs, hF⟩
  clear hP hPn hst hS h6 hnm hfs hF
  go_enter Ybaf.func4, Ybaf.ntmps4
  go_wp2_with fail
  go_loopw [11, 43] (fun t i wr => ∃ (k : Nat) (s : Int), k ≤ N ∧ 0 ≤ s ∧ s ≤ 65536 ∧ t = .int .i64 s ∧ i = .int .i64 k ∧ Below w.heap.size w wr ∧ ∀ j, j < k → (P j).n ≤ 65536) (fun _ i _ => N - (intOf i).toNat)
  case atStart => exact ⟨0, 0, Nat.zero_le _, by omega, by omega, rfl, rfl, Below.refl _ _, fun j hj => absurd hj (by omega)⟩
  case round =>
    obtain ⟨k, s, hk, hs0, hs1, rfl, rfl, hb, hlow⟩ := hrel
    have HL : Hid (∀ j, j < k → (P j).n ≤ 65536) := hlow
    have HB : Hid (Below w.heap.size w wr) := hb
    clear hlow
    by_cases hkN : k < N
    · obtain ⟨b, o, rfl, p0, p1, p2, pst⟩ := HP.out k hkN
      obtain ⟨hq, _⟩ := HPn.out k hkN
      have q0 := (hb.cell (by exact World.block_lt_of_cell? w _ p0)).trans p0
      have q1 := (hb.cell (by exact World.block_lt_of_cell? w _ p1)).trans p1
      have q2 := (hb.cell (by exact World.block_lt_of_cell? w _ p2)).trans p2
      have HB2 : Hid (Below w.heap.size w (wr.alloc (.cells #[.string (P k).name, .slice (P k).a (P k).n (P k).c, .bool (P k).node] 74))) := hb.alloc hb.size _
      clear p0 p1 p2 pst hb
      have hq' : ((P k).n : Int) ≤ 8796093022208 := by omega
      by_cases hover : 65536 < s + ((P k).n : Int)
      · go_wp2
        go_ret
        exact ⟨rfl, HB2.out⟩
      · have hover' : decide (65536 < s + ((P k).n : Int)) = false := by simp; omega
        go_wp2
        go_roundw
        case rel => exact ⟨k + 1, s + (P k).n, by omega, by omega, by omega, rfl, by go_num, HB2.out, fun j hj => by rcases Nat.lt_succ_iff_lt_or_eq.1 hj with h | rfl; exact HL.out j h; omega⟩
        case measure => simp [intOf]; omega
    · obtain rfl : k = N := by omega
      obtain ⟨w0, hw0⟩ : ∃ w0 : World, w0 = wr := ⟨_, rfl⟩
      subst hw0
      clear hb
      go_wp2_with fail
      have HB0 := built_start k P w0
      obtain ⟨G, hG⟩ : ∃ G, G = w0.heap.size := ⟨_, rfl⟩
      obtain ⟨Gv, hGv⟩ : ∃ Gv, Gv = G + 1 := ⟨_, rfl⟩
      obtain ⟨Nv, hNv⟩ : ∃ Nv, Nv = Gv + 1 := ⟨_, rfl⟩
      rw [← hG] at HB0 ⊢
      rw [← hGv]
      rw [← hNv]
      have HB0H : Hid (Built G k P [] [] [] [] (.slice none 0 0) (.slice none 0 0) (.slice none 0 0) w0 (((w0.alloc (.cells #[.int .i32 0, .int .u32 0, .slice none 0 0, .map none, .pointer none] 83)).alloc (.cells #[.pointer (some ⟨G, 0, none⟩)] 75)).alloc (.cells #[.slice none 0 0] 72))) := HB0
      have HG : Hid (G = w0.heap.size ∧ Gv = G + 1 ∧ Nv = G + 2) := ⟨hG, hGv, by omega⟩
      clear HB0 hG hGv hNv
      go_loopw [16, 59] (fun vk i wr => ∃ (m : Nat) (ns : List Nat) (l : List Dc) (vN vD : Value), m ≤ k ∧ i = .int .i64 m ∧ ns.length ≤ m ∧ Built G k P ns ns ns l vN vk vD w0 wr) (fun _ i _ => k - (intOf i).toNat)
      case atStart => exact ⟨0, [], [], _, _, Nat.zero_le _, rfl, Nat.le_refl _, HB0H.out⟩
      case round =>
        clear HB0H
        obtain ⟨m, ns, l, vN, vD, hm, rfl, hnsm, HT⟩ := hrel
        by_cases hmk : m < k
        · obtain ⟨b, o, rfl, p0, p1, p2, pst⟩ := HP.out m hmk
          obtain ⟨hq, hqn⟩ := HPn.out m hmk
          obtain ⟨va, vc, rfl⟩ := owns_slice HT.rN
          obtain ⟨ka, kc, rfl⟩ := owns_slice HT.rK
          obtain ⟨hG, hGv, hNv⟩ := HG.out
          have up : ∀ {ad : Addr} {v : Value}, w.cell? ad = some v → wr.cell? ad = some v := fun {ad v} h => by
            have h1 := World.block_lt_of_cell? w _ h
            have h2 := HB.out.size
            exact (HT.below.cell (by omega)).trans ((HB.out.cell (by exact h1)).trans h)
          have q0 := up p0
          have q1 := up p1
          have q2 := up p2
          have cN : wr.cell? ⟨Nv, 0, none⟩ = some (.slice va ns.length vc) := by rw [hNv, cell_of_row _ _ _ _ _ _ HT.nv]; rfl
          have hbb : b < wr.heap.size := World.block_lt_of_cell? wr _ q0
          have hNr : Nv < wr.heap.size := World.block_lt_of_cell? wr _ cN
          have HTH : Hid (Built G k P ns ns ns l (.slice va ns.length vc) (.slice ka ns.length kc) vD w0 wr) := HT
          have HPST : Hid (Strs w (P m).a (P m).n (P m).f) := pst
          clear p0 p1 p2 pst up HT hG hGv hNv
          go_wp2_with fail
          refine (contains_any va ns.length vc (nmF P ns) (P m).name _ (by omega) ?hcs).mono ?_
          case hcs => exact (strs_names HTH.out.rN).below ((Below.refl _ _).alloc (Nat.le_refl _) _) (Nat.le_refl _)
          rintro e w' ⟨rfl, rfl⟩
          cases hbn : hasB (nmF P ns) ns.length (P m).name with
          | true =>
            go_wp2
            go_roundw
            case rel => exact ⟨m + 1, ns, l, _, _, by omega, by go_num, by omega, HTH.out.next ((Below.refl _ _).alloc (Nat.le_refl _) _)⟩
            case measure => simp [intOf]; omega
          | false =>
            have hnew : (P m).name ∉ ns.map fun i => (P i).name := fun hmem => by rw [hasB_names.2 hmem] at hbn; cases hbn
            obtain ⟨i9, hi9, hz9, hs9, hby9⟩ := info_parts Ybaf.info9
            obtain ⟨W1, hW1⟩ : ∃ W1, W1 = (wr.alloc (.cells #[.string (P m).name, .slice (P m).a (P m).n (P m).c, .bool (P m).node] 74)).alloc (.cells #[.string (P m).name] 9) := ⟨_, rfl⟩
            have hz1 : (wr.alloc (.cells #[.string (P m).name, .slice (P m).a (P m).n (P m).c, .bool (P m).node] 74)).heap.size = wr.heap.size + 1 := by simp
            have hzW : W1.heap.size = wr.heap.size + 2 := by rw [hW1]; simp
            have HT1 : Built G k P ns ns ns l (.slice va ns.length vc) (.slice ka ns.length kc) vD w0 W1 := by rw [hW1]; exact HTH.out.next (((Below.refl _ _).alloc (Nat.le_refl _) _).alloc (by rw [hz1]; omega) _)
            have hbx : W1.heap[wr.heap.size]? = some (.cells #[.string (P m).name, .slice (P m).a (P m).n (P m).c, .bool (P m).node] 74 (0, 0)) := by
              rw [hW1, Below.heap_alloc _ _ _ (by rw [hz1]; omega)]; exact heap_alloc_new _ _
            have hby : W1.heap[wr.heap.size + 1]? = some (.cells #[.string (P m).name] 9 (0, 0)) := by
              have := heap_alloc_new (wr.alloc (.cells #[.string (P m).name, .slice (P m).a (P m).n (P m).c, .bool (P m).node] 74)) (.cells #[.string (P m).name] 9)
              rw [hz1] at this; rw [hW1]; exact this
            have SN1 : Hid (∀ j u, ([.string (P m).name] : List Value)[j]? = some u → W1.cell? ((⟨wr.heap.size + 1, 0, none⟩ : Addr).add j) = some u) := fun j u hu => by
              rw [Addr.add_mid, cell_of_row _ _ _ _ _ _ hby, Nat.zero_add]; simpa using hu
            have SN2 : Hid (∀ u ∈ ([.string (P m).name] : List Value), u.oneCell' = true) := fun u hu => by simp at hu; subst hu; rfl
            have SN3 : Hid (G + 3 ≤ W1.heap.size) := by have := lt_of_heap HT1.nv; exact this
            have HT1H : Hid (Built G k P ns ns ns l (.slice va ns.length vc) (.slice ka ns.length kc) vD w0 W1 ∧ W1.heap[wr.heap.size]? = some (.cells #[.string (P m).name, .slice (P m).a (P m).n (P m).c, .bool (P m).node] 74 (0, 0)) ∧ W1.heap.size = wr.heap.size + 2) := ⟨HT1, hbx, hzW⟩
            have hW1H : Hid (W1 = (wr.alloc (.cells #[.string (P m).name, .slice (P m).a (P m).n (P m).c, .bool (P m).node] 74)).alloc (.cells #[.string (P m).name] 9)) := hW1
            clear HT1 hbx hby hzW hz1 hW1
            obtain ⟨i3, hi3, hz3, hs3, hby3⟩ := info_parts Ybaf.info3
            have SK2 : Hid (∀ u ∈ ([.int .i64 (m : Nat)] : List Value), u.oneCell' = true) := fun u hu => by simp at hu; subst hu; rfl
            go_wp2_with (first
              | (at_builtin; rw [← hW1H.out]; refine wpList_append_lies (P := Ybaf.prog) _ (by rfl) (.tmp 68) (.tmp 71) 72 (by rfl) (G + 3) 9 i9 (.string ⟨#[]⟩) 1 16 Ybaf.underlying72 hi9 hz9 hs9 hby9 rfl (by decide) (.slice va ns.length vc) ns.length _ (by rfl) HT1H.out.1.rN ⟨wr.heap.size + 1, 0, none⟩ 1 1 [.string (P m).name] (by rfl) rfl SN1.out SN2.out (by decide) (by unfold maxLen; omega) (by omega) SN3.out _ rfl ?_; intro g1 cap1 w2 hown1 hgr1 hor1 hlt1; obtain ⟨cN2, fN2, lN2, HT2, hbx2⟩ := names_step HT1H.out.1 HT1H.out.2.1 HG.out.2.2 hmk hnew hown1 hgr1 hor1; have HT2H : Hid (Built G k P (ns ++ [m]) ns ns l (.slice (some ⟨g1, 0, none⟩) (ns.length + 1) cap1) (.slice ka ns.length kc) vD w0 (w2.setCell ⟨Nv, 0, none⟩ (.slice (some ⟨g1, 0, none⟩) (ns.length + 1) cap1)) ∧ (w2.setCell ⟨Nv, 0, none⟩ (.slice (some ⟨g1, 0, none⟩) (ns.length + 1) cap1)).heap[wr.heap.size]? = some (.cells #[.string (P m).name, .slice (P m).a (P m).n (P m).c, .bool (P m).node] 74 (0, 0))) := ⟨HT2, hbx2⟩; clear HT2 hbx2 hown1 hgr1 hor1 hlt1 SN1 SN2 SN3 HT1H hW1H)
              | (at_builtin; refine wpList_append_lies (P := Ybaf.prog) _ (by rfl) (.tmp 73) (.tmp 75) 24 (by rfl) (G + 3) 3 i3 (.int .i64 0) 1 8 Ybaf.underlying24 hi3 hz3 hs3 hby3 rfl (by decide) (.slice ka ns.length kc) ns.length _ (by rfl) (HT2H.out.1.rK.alloc _) ⟨w2.heap.size, 0, none⟩ 1 1 [.int .i64 (m : Nat)] (by rfl) rfl (news_of_new _ _ _ _ (by simp)) SK2.out (by decide) (by unfold maxLen; omega) (by omega) (by have hh := lt_of_heap (HT2H.out.1.next ((Below.refl _ _).alloc (Nat.le_refl _) (.cells #[.int .i64 (m : Nat)] 3))).nv; exact hh) _ rfl ?_; intro g2 cap2 w5 hown2 hgr2 hor2 hlt2; obtain ⟨HT5, hbx5⟩ := kept_step (HT2H.out.1.next ((Below.refl _ _).alloc (Nat.le_refl _) (.cells #[.int .i64 (m : Nat)] 3))) ((Below.heap_alloc _ _ _ (lt_of_heap HT2H.out.2)).trans HT2H.out.2) hown2 hgr2; have HT5H : Hid (Built G k P (ns ++ [m]) (ns ++ [m]) ns l (.slice (some ⟨g1, 0, none⟩) (ns.length + 1) cap1) (.slice (some ⟨g2, 0, none⟩) (ns.length + 1) cap2) vD w0 w5) := HT5; clear HT5 HT2H hown2 hgr2 hor2 hlt2 cN2 fN2 lN2)
              | fail)
            have hbb5 : w5.cell? ⟨wr.heap.size, 0, none⟩ = some (.string (P m).name) := by rw [cell_of_row _ _ _ _ _ _ hbx5]; rfl
            have hbb6 : w5.cell? ⟨wr.heap.size, 1, none⟩ = some (.slice (P m).a (P m).n (P m).c) := by rw [cell_of_row _ _ _ _ _ _ hbx5]; rfl
            have HBX5 : Hid (w5.heap[wr.heap.size]? = some (.cells #[.string (P m).name, .slice (P m).a (P m).n (P m).c, .bool (P m).node] 74 (0, 0))) := hbx5
            have hlt5 : wr.heap.size < w5.heap.size := lt_of_heap hbx5
            clear hbx5
            go_cut [19] from 60 to 97 (fun s19 wx => ∃ (Bd : Nat) (ca : Option Addr) (cc : Nat), s19 = .pointer (some ⟨Bd, 0, none⟩) ∧ Decl G k m wr.heap.size Bd P (ns ++ [m]) (ns ++ [m]) ns l (.slice (some ⟨g1, 0, none⟩) (ns.length + 1) cap1) (.slice (some ⟨g2, 0, none⟩) (ns.length + 1) cap2) vD ca cc w0 wx)
            case first =>
              have h00 : (P m).a = none → (P m).n = 0 := fun e => by
                rcases Nat.eq_zero_or_pos (P m).n with h | h
                · exact h
                · obtain ⟨b', o', e', _⟩ := HPST.out 0 h; rw [e] at e'; cases e'
              have HS5 : Hid (Strs w5 (P m).a (P m).n (P m).f) := by
                have h1 := HPST.out.below HB.out (Nat.le_refl _)
                have h2 := HG.out.1
                exact h1.below HT5H.out.below (by omega)
              go_region_with (go_at_call 11; refine (clone_any (P m).a (P m).n (P m).c (P m).f _ hq (by first | exact HS5.out.below (Below.refl _ _).drew (Nat.le_refl _) | exact HS5.out.below ((Below.refl _ _).alloc (Nat.le_refl _) _).drew (Nat.le_refl _)) h00).mono ?_; rintro e w6 ⟨ca, cc, rfl, hcl⟩; have hz63 : w6.cell? ⟨wr.heap.size, 0, none⟩ = some (.string (P m).name) := (by first | exact (hcl.below.cell (by show wr.heap.size < w5.heap.size; exact hlt5)).trans hbb5 | exact (hcl.below.cell (by show wr.heap.size < (w5.alloc _).heap.size; simp; omega)).trans (by rw [World.cell?_drew, World.cell?_alloc_lt _ _ _ (by exact hlt5)]; exact hbb5)); have hlt6 : wr.heap.size < w6.heap.size := World.block_lt_of_cell? w6 _ hz63; (try (have hz6 : w6.heap[w5.heap.size]? = some (.cells #[.string ⟨#[]⟩, .slice none 0 0, .nilFunc] 89 (0, 0)) := (hcl.below.block _ (by show w5.heap.size < (w5.alloc _).heap.size; simp)).trans (heap_alloc_new w5 _); have hz6f := fun o => frozen_of_row w6 w5.heap.size o _ _ hz6; have hz60 : w6.cell? ⟨w5.heap.size, 0, none⟩ = some (.string ⟨#[]⟩) := (by rw [cell_of_row _ _ _ _ _ _ hz6]; rfl); have hz61 : w6.cell? ⟨w5.heap.size, 1, none⟩ = some (.slice none 0 0) := (by rw [cell_of_row _ _ _ _ _ _ hz6]; rfl); have hz62 : w6.cell? ⟨w5.heap.size, 2, none⟩ = some .nilFunc := (by rw [cell_of_row _ _ _ _ _ _ hz6]; rfl))))
              all_goals (go_wp2_with fail; go_meet; first | exact ⟨_, _, _, rfl, decl_a HT5H.out HBX5.out hcl⟩ | exact ⟨_, _, _, rfl, decl_b HT5H.out HBX5.out hcl⟩)
            case rest =>
              obtain ⟨Bd, ca, cc, rfl, HD⟩ := hcut
              obtain ⟨w6, hw6⟩ : ∃ w6 : World, w6 = wc := ⟨_, rfl⟩
              subst hw6
              have x2 : w6.cell? ⟨wr.heap.size, 2, none⟩ = some (.bool (P m).node) := by rw [cell_of_row _ _ _ _ _ _ HD.box]; rfl
              have y0 : w6.cell? ⟨Bd, 0, none⟩ = some (.string (P m).name) := by rw [cell_of_row _ _ _ _ _ _ HD.d]; rfl
              have y1 : w6.cell? ⟨Bd, 1, none⟩ = some (.slice ca (P m).n cc) := by rw [cell_of_row _ _ _ _ _ _ HD.d]; rfl
              have y2 : w6.cell? ⟨Bd, 2, none⟩ = some .nilFunc := by rw [cell_of_row _ _ _ _ _ _ HD.d]; rfl
              have yf : w6.frozen? ⟨Bd, 2, none⟩ = false := frozen_of_row _ _ _ _ _ HD.d
              have HDH : Hid (Decl G k m wr.heap.size Bd P (ns ++ [m]) (ns ++ [m]) ns l (.slice (some ⟨g1, 0, none⟩) (ns.length + 1) cap1) (.slice (some ⟨g2, 0, none⟩) (ns.length + 1) cap2) vD ca cc w0 w6) := HD
              clear HD hbb5 hbb6 hlt5 HT5H HBX5
              go_upto_if 84 with fail
              go_cut [] from 60 to 97 (fun wx => DeclF G k m Bd P (ns ++ [m]) (ns ++ [m]) ns l (.slice (some ⟨g1, 0, none⟩) (ns.length + 1) cap1) (.slice (some ⟨g2, 0, none⟩) (ns.length + 1) cap2) vD ca cc w0 wx)
              case first =>
                cases hnode : (P m).node with
                | true =>
                  go_wp2_with (go_at_call 12; refine (fn_lit _).mono ?_; rintro e w' ⟨rfl, rfl⟩)
                  go_meet
                  exact HDH.out.fin_true hnode
                | false =>
                  go_wp2_with fail
                  go_meet
                  exact HDH.out.fin_false hnode
              case rest =>
                clear HDH x2 y0 y1 y2 yf
                have HDF : Hid (DeclF G k m Bd P (ns ++ [m]) (ns ++ [m]) ns l (.slice (some ⟨g1, 0, none⟩) (ns.length + 1) cap1) (.slice (some ⟨g2, 0, none⟩) (ns.length + 1) cap2) vD ca cc w0 wc) := hcut
                obtain ⟨hG, hGv, hNv⟩ := HG.out
                obtain ⟨dva, dvc, rfl⟩ := owns_slice hcut.built.rD
                obtain ⟨i0, z0, hi0, hz0, hzc, hz1, hz2⟩ := info89_parts
                have y0 : wc.cell? ⟨Bd, 0, none⟩ = some (.string (P m).name) := by rw [cell_of_row _ _ _ _ _ _ hcut.d]; rfl
                have y1 : wc.cell? ⟨Bd, 1, none⟩ = some (.slice ca (P m).n cc) := by rw [cell_of_row _ _ _ _ _ _ hcut.d]; rfl
                have y2 : wc.cell? ⟨Bd, 2, none⟩ = some (fnv (P m).node) := by rw [cell_of_row _ _ _ _ _ _ hcut.d]; rfl
                have x0 : wc.cell? ⟨Gv, 0, none⟩ = some (.pointer (some ⟨G, 0, none⟩)) := by rw [hGv, cell_of_row _ _ _ _ _ _ hcut.built.gv]; rfl
                have x1 : wc.cell? ⟨G, 2, none⟩ = some (.slice dva l.length dvc) := by rw [cell_of_row _ _ _ _ _ _ hcut.built.gblk]; rfl
                have z1 : Gv < wc.heap.size := by rw [hGv]; exact lt_of_heap hcut.built.gv
                have z2 : G < wc.heap.size := lt_of_heap hcut.built.gblk
                have z3 : Bd < wc.heap.size := lt_of_heap hcut.d
                have z4 : G + 2 < wc.heap.size := lt_of_heap hcut.built.nv
                have hll : l.length ≤ 1024 := by have := hcut.built.len; omega
                have S1 : Hid (∀ j u, ([.string (P m).name, .slice ca (P m).n cc, fnv (P m).node] : List Value)[j]? = some u → ((wc.alloc (.cells #[.string (P m).name, .slice ca (P m).n cc, fnv (P m).node] 89)).drew).cell? ((⟨wc.heap.size, 0, none⟩ : Addr).add j) = some u) := fun j u hu => by
                  rw [World.cell?_drew, Addr.add_mid, cell_of_row _ _ _ _ _ _ (heap_alloc_new wc (.cells #[.string (P m).name, .slice ca (P m).n cc, fnv (P m).node] 89)), Nat.zero_add]
                  simpa using hu
                have S2 : Hid (∀ u ∈ ([.string (P m).name, .slice ca (P m).n cc, fnv (P m).node] : List Value), u.oneCell' = true) := fun u hu => by
                  simp at hu
                  rcases hu with rfl | rfl | rfl
                  · rfl
                  · rfl
                  · exact fnv_one _
                have S4 : Hid (((wc.alloc (.cells #[.string (P m).name, .slice ca (P m).n cc, fnv (P m).node] 89)).drew).heap.size = wc.heap.size + 1) := by show (wc.alloc _).heap.size = _; simp
                have S3 : Hid (G + 3 ≤ ((wc.alloc (.cells #[.string (P m).name, .slice ca (P m).n cc, fnv (P m).node] 89)).drew).heap.size) := (show G + 3 ≤ ((wc.alloc (.cells #[.string (P m).name, .slice ca (P m).n cc, fnv (P m).node] 89)).drew).heap.size by rw [S4.out]; omega)
                have hone := fnv_one (P m).node
                clear hcut hG hGv hNv
                go_wp2_with fail
                go_region_law (refine step_append_lies (P := Ybaf.prog) _ rfl (.tmp 91) (.tmp 93) 76 rfl (G + 3) 89 i0 z0 3 48 Ybaf.underlying76 hi0 hz0 hz1 hz2 hzc (by decide) (.slice dva l.length dvc) l.length (dcs l) (by simp [Act.eval, Act.put]) ((HDF.out.built.rD.alloc _).drew) ⟨wc.heap.size, 0, none⟩ 1 1 [.string (P m).name, .slice ca (P m).n cc, fnv (P m).node] (by simp [Act.eval, Act.put]) rfl S1.out S2.out (by decide) (by unfold maxLen; omega) (by omega) S3.out (wc.heap.size + 1) S4.out ?_; intro g3 cap3 w7 hown3 hgr3 hor3 hlt3; obtain ⟨e1, e2, e3, HBN⟩ := decls_step HDF.out hown3 hgr3 hor3 HG.out.2.1; have HBNH : Hid (Built G k P (ns ++ [m]) (ns ++ [m]) (ns ++ [m]) (l ++ [((P m).name, Value.slice ca (P m).n cc, fnv (P m).node)]) (.slice (some ⟨g1, 0, none⟩) (ns.length + 1) cap1) (.slice (some ⟨g2, 0, none⟩) (ns.length + 1) cap2) (.slice (some ⟨g3, 0, none⟩) (l.length + 1) cap3) w0 (w7.setCell ⟨G, 2, none⟩ (.slice (some ⟨g3, 0, none⟩) (l.length + 1) cap3))) := HBN; clear HBN hown3 hgr3 hor3)
                all_goals
                  go_wp2
                  go_roundw
                  case rel => exact ⟨m + 1, ns ++ [m], _, _, _, by omega, by go_num, by simp; omega, HBNH.out⟩
                  case measure => simp [intOf]; omega
        · obtain rfl : m = k := by omega
          clear hmk
          obtain ⟨va, vc, rfl⟩ := owns_slice HT.rN
          obtain ⟨ka, kc, rfl⟩ := owns_slice HT.rK
          have HF0 := HT.full
          have HLN : Hid (l.length = ns.length ∧ ns.length ≤ 1024) := ⟨HT.len, by omega⟩
          obtain ⟨hG, hGv, hNv⟩ := HG.out
          have cN : wr.cell? ⟨Nv, 0, none⟩ = some (.slice va ns.length vc) := by rw [hNv]; exact HF0.cn
          have cG : wr.cell? ⟨Gv, 0, none⟩ = some (.pointer (some ⟨G, 0, none⟩)) := by rw [hGv]; exact HF0.cg
          have c3 := HF0.c3
          have cf := HF0.fz 3
          have zG := lt_of_heap HF0.gblk
          have zN : Nv < wr.heap.size := World.block_lt_of_cell? wr _ cN
          have zV : Gv < wr.heap.size := World.block_lt_of_cell? wr _ cG
          have HFH : Hid (Full G m P ns l (.slice va ns.length vc) (.slice ka ns.length kc) vD none none [] w0 wr) := HF0
          clear HF0 HT hG hGv hNv
          go_upto_if 100 with fail
          go_cut [] from 98 to 120 (fun wx => ∃ mo, Full G m P ns l (.slice va ns.length vc) (.slice ka ns.length kc) vD mo none (rvN P ns) w0 wx ∧ (ns.length = 0 → mo = none))
          case first =>
            by_cases hK : ns.length = 0
            · have hK' : decide (0 < ns.length) = false := by simp [hK]
              go_wp2_with fail
              go_meet
              refine ⟨none, ?_, fun _ => rfl⟩
              obtain rfl : ns = [] := List.eq_nil_of_length_eq_zero hK
              exact HFH.out
            · have HM := HFH.out.made.next ((Below.refl _ _).drew)
              obtain ⟨mb, hmb⟩ : ∃ mb, mb = wr.heap.size := ⟨_, rfl⟩
              rw [← hmb] at HM
              have HMH : Hid (Full G m P ns l (.slice va ns.length vc) (.slice ka ns.length kc) vD (some mb) none [] w0 (((wr.setCell ⟨G, 3, none⟩ (.map (some mb))).alloc (.map #[] 0)).drew)) := HM
              have hmbH : Hid (mb = wr.heap.size) := hmb
              clear HM hmb
              go_wp2_with fail
              go_region
              all_goals rw [← hmbH.out]
              go_wp2_with fail
              go_loopw [109] (fun i wr => ∃ q : Nat, q ≤ ns.length ∧ i = .int .i64 q ∧ Full G m P ns l (.slice va ns.length vc) (.slice ka ns.length kc) vD (some mb) none (revL (nmF P ns) q) w0 wr) (fun i _ => ns.length - (intOf i).toNat)
              case atStart => exact ⟨0, Nat.zero_le _, rfl, HMH.out⟩
              case round =>
                clear HMH hmbH c3 cf cN cG zG zN zV HFH
                obtain ⟨q, hq, rfl, HT⟩ := hrel
                have HTH : Hid (Full G m P ns l (.slice va ns.length vc) (.slice ka ns.length kc) vD (some mb) none (revL (nmF P ns) q) w0 wr) := HT
                by_cases hqK : q < ns.length
                · obtain ⟨b, o, rfl, hc⟩ := strs_names HT.rN q hqK
                  have hsz : (nmF P ns q).size ≤ maxLen := (HPn.out _ (HT.lt _ (by simp [List.getD_eq_getElem?_getD, List.getElem?_eq_getElem hqK]))).2
                  obtain ⟨w2, hup, hidx2, hgr2⟩ := HT.idx.put (nmF P ns q) hsz (by rw [length_revL]; unfold maxLen; omega)
                  rw [length_revL] at hup
                  have HN : Hid (Full G m P ns l (.slice (some ⟨b, o, none⟩) ns.length vc) (.slice ka ns.length kc) vD (some mb) none (revL (nmF P ns) (q + 1)) w0 w2) := HT.put hidx2 hgr2
                  have cG : wr.cell? ⟨Gv, 0, none⟩ = some (.pointer (some ⟨G, 0, none⟩)) := by rw [HG.out.2.1]; exact HT.cg
                  have c3 := HT.c3
                  clear HT hidx2 hgr2 HTH
                  go_wp2
                  go_roundw
                  case rel => exact ⟨q + 1, by omega, by go_num, HN.out⟩
                  case measure => simp [intOf]; omega
                · obtain rfl : q = ns.length := by omega
                  clear HT
                  go_wp2_with fail
                  go_meet
                  exact ⟨some mb, by rw [← revL_all]; exact HTH.out, fun h => absurd h hK⟩
          case rest =>
            clear HFH cN cG c3 cf zG zN zV
            obtain ⟨mo, HF1, hmo0⟩ := hcut
            obtain ⟨w1, hw1⟩ : ∃ w1 : World, w1 = wc := ⟨_, rfl⟩
            subst hw1
            have cN : w1.cell? ⟨Nv, 0, none⟩ = some (.slice va ns.length vc) := by rw [HG.out.2.2]; exact HF1.cn
            have cG : w1.cell? ⟨Gv, 0, none⟩ = some (.pointer (some ⟨G, 0, none⟩)) := by rw [HG.out.2.1]; exact HF1.cg
            have c4 := HF1.c4
            have cf := HF1.fz 4
            have zG := lt_of_heap HF1.gblk
            have HFH : Hid (Full G m P ns l (.slice va ns.length vc) (.slice ka ns.length kc) vD mo none (rvN P ns) w0 w1) := HF1
            have HM0 : Hid (ns.length = 0 → mo = none) := hmo0
            clear HF1 hmo0
            go_upto_if 121 with fail
            go_cut [] from 121 to 127 (fun wx => ∃ po, Full G m P ns l (.slice va ns.length vc) (.slice ka ns.length kc) vD mo po (rvN P ns) w0 wx ∧ Plan G fz po wx)
            case first =>
              cases fz with
              | true =>
                go_wp2_with fail
                refine (store_plan ⟨G, 4, none⟩ w1.heap.size none (.slice none 0 0) _ ?p1 ?p2 ?p3).mono ?_
                case p1 => exact (HFH.out.next ((Below.refl _ _).alloc (Nat.le_refl _) _)).c4
                case p2 => exact (HFH.out.next ((Below.refl _ _).alloc (Nat.le_refl _) _)).fz 4
                case p3 => simp
                rintro e w' ⟨rfl, rfl⟩
                go_wp2_with fail
                go_meet
                exact ⟨_, HFH.out.planned _ _ _⟩
              | false =>
                go_wp2_with fail
                go_meet
                exact ⟨none, HFH.out, .inl ⟨rfl, rfl⟩⟩
            case rest =>
              clear HFH cN cG c4 cf zG
              obtain ⟨po, HF2, hpl⟩ := hcut
              obtain ⟨w2, hw2⟩ : ∃ w2 : World, w2 = wc := ⟨_, rfl⟩
              subst hw2
              have HG1 := HG.out.1
              have hST0 : Strs w0 da n f := HST.out.below HB.out (Nat.le_refl _)
              have HST0 : Hid (Strs w0 da n f) := hST0
              have hsw2 : Strs w2 da n f := hST0.below HF2.below (by omega)
              have HFH : Hid (Full G m P ns l (.slice va ns.length vc) (.slice ka ns.length kc) vD mo po (rvN P ns) w0 w2) := HF2
              have HPL : Hid (Plan G fz po w2) := hpl
              have HS2 : Hid (Strs w2 da n f) := hsw2
              have h00 : Hid (da = none → n = 0) := fun e => by
                rcases Nat.eq_zero_or_pos n with h | h
                · exact h
                · obtain ⟨b', o', e', _⟩ := HST.out 0 h; rw [e] at e'; cases e'
              clear HF2 hpl hsw2 hST0 HG1
              go_upto_if 130 with (go_at_call 11; refine (clone_any da n dc f _ (by omega) HS2.out h00.out).mono ?_; rintro e w3 ⟨ca, cc, rfl, hcl⟩; have HCL : Hid (ClonedAny da n f ca w2 w3) := hcl; clear hcl)
              go_cut [23] from 130 to 131 (fun s23 wx => s23 = fnv nd ∧ wx = w3)
              case first =>
                cases nd with
                | true =>
                  go_wp2_with (go_at_call 12; refine (fn_lit _).mono ?_; rintro e w' ⟨rfl, rfl⟩)
                  go_meet
                  exact ⟨rfl, rfl⟩
                | false =>
                  go_wp2_with fail
                  go_meet
                  exact ⟨rfl, rfl⟩
              case rest =>
                obtain ⟨rfl, hwx⟩ := hcut
                subst hwx
                obtain ⟨w3, hw3⟩ : ∃ w3 : World, w3 = wc := ⟨_, rfl⟩
                subst hw3
                have HF3 := HFH.out.next HCL.out.below
                have cG : w3.cell? ⟨Gv, 0, none⟩ = some (.pointer (some ⟨G, 0, none⟩)) := by rw [HG.out.2.1]; exact HF3.cg
                have HDEC : Hid (Calls Ybaf.prog 14 #[.pointer (some ⟨G, 0, none⟩), .agg #[.string name, .slice da n dc, fnv nd]] w3 fun e w' => ∃ ev l' vD' mo' r', e = .returned ev ∧ Mid G m P ns l (.slice va ns.length vc) (.slice ka ns.length kc) mo po w0 fz aF aD name da n dc f (fnv nd) ca ev l' vD' mo' r' w') :=
                  declare_mid F fz G m P ns l _ _ vD mo po aF aD name da n dc f (fnv nd) ca w0 w2 w3 (by rw [HB.out.tape]; exact HSE.out.2.2.2.2) HFH.out HPL.out HCL.out (HSE.out.1.below HB.out (Nat.le_refl _)) (by have := HB.out.size; have := HSE.out.2.1; omega) HLN.out.1 HLN.out.2 HSE.out.2.2.1 hn HST0.out HSE.out.2.2.2.1 (fnv_one nd)
                clear HF3 HFH HPL HS2 HCL
                go_upto_region 38 with fail
                go_cut [24] from 132 to 137 (fun ev wx => ∃ l' vD' mo' r', Mid G m P ns l (.slice va ns.length vc) (.slice ka ns.length kc) mo po w0 fz aF aD name da n dc f (fnv nd) ca ev l' vD' mo' r' wx)
                case first =>
                  cases nd with
                  | true =>
                    have e23 : fnv true = .func (.func 30) #[] #[] := rfl
                    rw [e23] at HDEC ⊢
                    go_wp2_with (go_at_call 14; refine HDEC.out.mono ?_; rintro e w4 ⟨ev, l', vD', mo', r', rfl, HMI⟩; have HMIH : Hid (Mid G m P ns l (.slice va ns.length vc) (.slice ka ns.length kc) mo po w0 fz aF aD name da n dc f (.func (.func 30) #[] #[]) ca ev l' vD' mo' r' w4) := HMI; clear HMI HDEC cG)
                    go_meet
                    exact ⟨_, _, _, _, HMIH.out⟩
                  | false =>
                    have e23 : fnv false = .nilFunc := rfl
                    rw [e23] at HDEC ⊢
                    go_wp2_with (go_at_call 14; refine HDEC.out.mono ?_; rintro e w4 ⟨ev, l', vD', mo', r', rfl, HMI⟩; have HMIH : Hid (Mid G m P ns l (.slice va ns.length vc) (.slice ka ns.length kc) mo po w0 fz aF aD name da n dc f .nilFunc ca ev l' vD' mo' r' w4) := HMI; clear HMI HDEC cG)
                    go_meet
                    exact ⟨_, _, _, _, HMIH.out⟩
                case rest =>
                clear HDEC cG
                obtain ⟨l', vD', mo', r', HMI⟩ := hcut
                obtain ⟨w4, hw4⟩ : ∃ w4 : World, w4 = wc := ⟨_, rfl⟩
                subst hw4
                obtain ⟨ev, hev⟩ : ∃ ev : Value, ev = u24 := ⟨_, rfl⟩
                subst hev
                have HMIH : Hid (Mid G m P ns l (.slice va ns.length vc) (.slice ka ns.length kc) mo po w0 fz aF aD name da n dc f (fnv nd) ca ev l' vD' mo' r' w4) := HMI
                clear HMI
                go_upto_region 41 with (first
                  | (go_at_call 15; refine (equal_true da ca n dc cc f _ (by omega) HMIH.out.sa HMIH.out.sc).mono ?_; rintro e w5 ⟨rfl, q, hw5⟩; have HM5 : Hid (Mid G m P ns l (.slice va ns.length vc) (.slice ka ns.length kc) mo po w0 fz aF aD name da n dc f (fnv nd) ca ev l' vD' mo' r' w5) := (by rw [hw5]; exact HMIH.out.next (below_drewN (Below.refl _ _) q)); clear hw5 HMIH))
                have cG : w5.cell? ⟨Gv, 0, none⟩ = some (.pointer (some ⟨G, 0, none⟩)) := by rw [HG.out.2.1]; exact HM5.out.full.cg
                have c4 := HM5.out.full.c4
                go_cut [148] from 142 to 148 (fun s148 wx => s148 = .bool false ∧ wx = w5)
                case first =>
                  rcases HM5.out.plan with ⟨hfz, hpo⟩ | ⟨hfz, p, c0, c1, c2, hpo, hp, hpG⟩
                  · subst hfz hpo
                    go_wp2_with (go_at_call 16; refine (load_nil _ _ c4).mono ?_; rintro e w' ⟨rfl, rfl⟩)
                    go_meet
                    exact ⟨rfl, rfl⟩
                  · subst hfz hpo
                    go_wp2_with (go_at_call 16; refine (load_plan _ p c0 c1 c2 _ _ c4 hp).mono ?_; rintro e w' ⟨rfl, rfl⟩)
                    go_meet
                    exact ⟨rfl, rfl⟩
                case rest =>
                  clear cG c4
                  obtain ⟨rfl, hwx⟩ := hcut
                  subst hwx
                  obtain ⟨w5, hw5⟩ : ∃ w5 : World, w5 = wc := ⟨_, rfl⟩
                  subst hw5
                  have cG : w5.cell? ⟨Gv, 0, none⟩ = some (.pointer (some ⟨G, 0, none⟩)) := by rw [HG.out.2.1]; exact HM5.out.full.cg
                  obtain ⟨dva, dvc, rfl⟩ := owns_slice HM5.out.full.rD
                  have HPR : Hid (Calls Ybaf.prog 17 #[.pointer (some ⟨G, 0, none⟩), .slice pa m pc, .slice ka ns.length kc] w5 fun e w' => e = .returned (.bool true) ∧ Below w5.heap.size w5 w') := by
                    obtain ⟨hi1, hi2, hi3, hi4⟩ := HM5.out.index
                    have h1 := HLN.out.1
                    have h2 := HLN.out.2
                    have h3 := HG.out.1
                    exact prior_any G m pc l'.length dvc ns.length kc 0 pa dva ka mo' po P (fun k => ns.getD k 0) r' w5 HM5.out.full.gblk (by omega) (by omega) hN (fun k hk => HM5.out.full.lt _ (by simp [List.getD_eq_getElem?_getD, List.getElem?_eq_getElem hk])) ((HP.out.below HB.out (Nat.le_refl _)).below HM5.out.full.below (by omega)) (fun i hi => ⟨HL.out i hi, (HPn.out i hi).2⟩) HM5.out.full.idx hi1 hi2 (fun k hk => HM5.out.full.laid k hk)
                  go_upto_block 6 with (first
                    | (go_at_call 17; refine HPR.out.mono ?_; rintro e w6 ⟨rfl, hb6⟩; have HM6 : Hid (Mid G m P ns l (.slice va ns.length vc) (.slice ka ns.length kc) mo po w0 fz aF aD name da n dc f (fnv nd) ca ev l' (.slice dva l'.length dvc) mo' r' w6) := HM5.out.next hb6; have cN : w6.cell? ⟨Nv, 0, none⟩ = some (.slice va ns.length vc) := (by rw [HG.out.2.2]; exact HM6.out.full.cn); clear HM5 hb6 HPR cG)
                    | (go_at_call 10; refine (contains_any va ns.length vc (nmF P ns) name _ (by omega) (strs_names HM6.out.full.rN)).mono ?_; rintro e w' ⟨rfl, rfl⟩))
                  clear cN
                  go_cut [26] from 157 to 183 (fun s26 wx => s26 = .bool (dupB f n) ∧ Mid G m P ns l (.slice va ns.length vc) (.slice ka ns.length kc) mo po w0 fz aF aD name da n dc f (fnv nd) ca ev l' (.slice dva l'.length dvc) mo' r' wx)
                  case first =>
                    go_wp2_with fail
                    go_loopw [26, 27] (fun s26 s27 wr => ∃ (i : Nat) (d : Bool), i ≤ n ∧ s27 = .int .i64 i ∧ s26 = .bool d ∧ Mid G m P ns l (.slice va ns.length vc) (.slice ka ns.length kc) mo po w0 fz aF aD name da n dc f (fnv nd) ca ev l' (.slice dva l'.length dvc) mo' r' wr ∧ (d = true → dupB f n = true) ∧ (d = false → ∀ a b, a < i → a < b → b < n → f a ≠ f b)) (fun _ s27 _ => n - (intOf s27).toNat)
                    case atStart => exact ⟨0, false, Nat.zero_le _, rfl, rfl, HM6.out, (fun h => by cases h), fun _ a b h => absurd h (by omega)⟩
                    case round =>
                      clear HM6
                      obtain ⟨i, d, hi, rfl, rfl, HM7, hd1, hd0⟩ := hrel
                      have HM7H : Hid (Mid G m P ns l (.slice va ns.length vc) (.slice ka ns.length kc) mo po w0 fz aF aD name da n dc f (fnv nd) ca ev l' (.slice dva l'.length dvc) mo' r' wr) := HM7
                      have HD : Hid ((d = true → dupB f n = true) ∧ (d = false → ∀ a b, a < i → a < b → b < n → f a ≠ f b)) := ⟨hd1, hd0⟩
                      clear HM7 hd1 hd0
                      cases d with
                      | true =>
                        have hdb := HD.out.1 rfl
                        go_wp2_with fail
                        all_goals
                          go_meet
                          exact ⟨by rw [hdb], HM7H.out⟩
                      | false =>
                        have HDF : Hid (∀ a b, a < i → a < b → b < n → f a ≠ f b) := HD.out.2 rfl
                        clear HD
                        by_cases hin : i < n
                        · go_wp2_with fail
                          go_loopw [26, 28] (fun s26 s28 wr => ∃ (j : Nat), i < j ∧ j ≤ n ∧ s28 = .int .i64 j ∧ s26 = .bool false ∧ Mid G m P ns l (.slice va ns.length vc) (.slice ka ns.length kc) mo po w0 fz aF aD name da n dc f (fnv nd) ca ev l' (.slice dva l'.length dvc) mo' r' wr ∧ (∀ b, i < b → b < j → f i ≠ f b)) (fun _ s28 _ => n - (intOf s28).toNat)
                          case atStart => exact ⟨i + 1, by omega, by omega, by go_num, rfl, HM7H.out, fun b h1 h2 => absurd h2 (by omega)⟩
                          case round =>
                            clear HM7H
                            obtain ⟨j, hij, hjn, rfl, rfl, HM8, hlo⟩ := hrel
                            have HM8H : Hid (Mid G m P ns l (.slice va ns.length vc) (.slice ka ns.length kc) mo po w0 fz aF aD name da n dc f (fnv nd) ca ev l' (.slice dva l'.length dvc) mo' r' wr) := HM8
                            have HLO : Hid (∀ b, i < b → b < j → f i ≠ f b) := hlo
                            clear HM8 hlo
                            by_cases hjn' : j < n
                            · obtain ⟨b, o, rfl, hci⟩ := HM8H.out.sa i hin
                              obtain ⟨b', o', e', hcj⟩ := HM8H.out.sa j hjn'
                              cases e'
                              cases hq : ((f i).toList == (f j).toList) with
                              | true =>
                                go_wp2_with fail
                                go_quiet (fail)
                                go_wp2
                                go_roundw
                                case rel => exact ⟨i + 1, true, by omega, by go_num, rfl, HM8H.out.next (below_drewN (Below.refl _ _) _), (fun _ => dupB_of_pair hij hjn' (bytes_eq.1 hq)), (fun h => by cases h)⟩
                                case measure => simp [intOf]; omega
                              | false =>
                                go_wp2_with fail
                                go_quiet (fail)
                                go_wp2
                                go_roundw
                                case rel => exact ⟨j + 1, by omega, by omega, by go_num, rfl, HM8H.out.next (below_drewN (Below.refl _ _) _), fun c h1 h2 => by
                                  rcases Nat.lt_succ_iff_lt_or_eq.1 h2 with h | rfl
                                  · exact HLO.out c h1 h
                                  · intro e; rw [bytes_eq.2 e] at hq; cases hq⟩
                                case measure => simp [intOf]; omega
                            · obtain rfl : j = n := by omega
                              go_wp2
                              go_roundw
                              case rel => exact ⟨i + 1, false, by omega, by go_num, rfl, HM8H.out, (fun h => by cases h), fun _ a b h1 h2 h3 => by
                                rcases Nat.lt_succ_iff_lt_or_eq.1 h1 with h | rfl
                                · exact HDF.out a b h h2 h3
                                · exact HLO.out b h2 h3⟩
                              case measure => simp [intOf]; omega
                        · obtain rfl : i = n := by omega
                          go_wp2_with fail
                          go_meet
                          exact ⟨by rw [dupB_of_none (fun a b h1 h2 => HDF.out a b (by omega) h1 h2)], HM7H.out⟩
                  case rest =>
                    clear HM6
                    obtain ⟨rfl, HM⟩ := hcut
                    obtain ⟨w8, hw8⟩ : ∃ w8 : World, w8 = wc := ⟨_, rfl⟩
                    subst hw8
                    have HMH : Hid (Mid G m P ns l (.slice va ns.length vc) (.slice ka ns.length kc) mo po w0 fz aF aD name da n dc f (fnv nd) ca ev l' (.slice dva l'.length dvc) mo' r' w8) := HM
                    have HBF : Below w.heap.size w w8 := by
                      have h1 := HB.out
                      have h2 := HG.out.1
                      have h3 := h1.size
                      exact h1.trans (HM.full.below.mono (by omega))
                    have HBFH : Hid (Below w.heap.size w w8) := HBF
                    clear HM HBF
                    rcases HMH.out.out with ⟨hfz, hev, hl', hr', hm'⟩ | ⟨hfz, hdup, hl', hr', hm', b, hev, hwrap⟩ | ⟨hfz, hnm, hnd, hev, hl', hr'⟩
                    · have HUN : Hid (Calls Ybaf.prog 18 #[.pointer (some ⟨Gv, 0, none⟩), .pointer (some ⟨Nv, 0, none⟩)] w8 fun e w' => e = .returned (.bool true) ∧ ∃ q, w' = w8.drewN q) := HMH.out.unch (by rw [hl']; exact HLN.out.1) hr' (by rw [hm']; exact HM0.out) HLN.out.2 HG.out.2.1 HG.out.2.2
                      have g3 := HMH.out.sent.gF
                      obtain ⟨i14, hi14, hcmp⟩ := Option.map_eq_some_iff.1 Ybaf.isComp
                      obtain ⟨j14, hj14, hjs⟩ := Option.map_eq_some_iff.1 Ybaf.isSize
                      have heq := fun w : World => run_eql_iface_ptr_same (P := Ybaf.prog) w aF Ybaf.underlying65 Ybaf.underlying142 hi14 hcmp hj14
                      subst hfz hev
                      clear HMH hl' hr' hm'
                      go_wp2_with (go_at_call 18; refine HUN.out.mono ?_; rintro e w9 ⟨rfl, q, rfl⟩)
                      go_ret
                      exact ⟨rfl, below_drewN HBFH.out q⟩
                    · have HUN : Hid (Calls Ybaf.prog 18 #[.pointer (some ⟨Gv, 0, none⟩), .pointer (some ⟨Nv, 0, none⟩)] w8 fun e w' => e = .returned (.bool true) ∧ ∃ q, w' = w8.drewN q) := HMH.out.unch (by rw [hl']; exact HLN.out.1) hr' (by rw [hm']; exact HM0.out) HLN.out.2 HG.out.2.1 HG.out.2.2
                      have g3 := HMH.out.sent.gF
                      have g4 := HMH.out.sent.gD
                      obtain ⟨csF, tF, hbF⟩ := HMH.out.sent.bF
                      obtain ⟨csD, tD, hbD⟩ := HMH.out.sent.bD
                      have HI1 : Hid (Calls Ybaf.prog 8 #[.iface 128 (.pointer (some ⟨b, 0, none⟩)), .iface 142 (.pointer (some aD))] w8 fun e w' => e = .returned (.bool true) ∧ w' = w8) := is_wrap_same b 0 aD w8 hwrap
                      have HI2 : Hid (Calls Ybaf.prog 8 #[.iface 128 (.pointer (some ⟨b, 0, none⟩)), .iface 142 (.pointer (some aF))] w8 fun e w' => e = .returned (.bool false) ∧ w' = w8) := is_wrap_other b 0 aF aD csD csF tD tF w8 hwrap (Ne.symm HMH.out.sent.ne) hbD hbF
                      have hdd : hasB (nmF P ns) ns.length name = true ∨ dupB f n = true := by rw [memB_rvN] at hdup; exact hdup.imp id dupB_true.2
                      subst hfz hev
                      clear HMH hl' hr' hm' hwrap hdup hbF hbD
                      cases hhb : hasB (nmF P ns) ns.length name with
                      | true =>
                        go_wp2_with (first | (go_at_call 18; refine HUN.out.mono ?_; rintro e w9 ⟨rfl, q, rfl⟩) | (go_at_call_of 8 (Value.iface 142 (Value.pointer (some aD))); refine HI1.out.mono ?_; rintro e w' ⟨rfl, rfl⟩) | (go_at_call_of 8 (Value.iface 142 (Value.pointer (some aF))); refine HI2.out.mono ?_; rintro e w' ⟨rfl, rfl⟩))
                        go_ret
                        exact ⟨rfl, below_drewN HBFH.out q⟩
                      | false =>
                        have hdb : dupB f n = true := by rw [hhb] at hdd; exact hdd.resolve_left (by decide)
                        go_wp2_with (first | (go_at_call 18; refine HUN.out.mono ?_; rintro e w9 ⟨rfl, q, rfl⟩) | (go_at_call_of 8 (Value.iface 142 (Value.pointer (some aD))); refine HI1.out.mono ?_; rintro e w' ⟨rfl, rfl⟩) | (go_at_call_of 8 (Value.iface 142 (Value.pointer (some aF))); refine HI2.out.mono ?_; rintro e w' ⟨rfl, rfl⟩))
                        go_ret
                        exact ⟨rfl, below_drewN HBFH.out q⟩
                    · have hhb : hasB (nmF P ns) ns.length name = false := by rw [← memB_rvN]; exact hnm
                      have hdb : dupB f n = false := by
                        cases hd : dupB f n with
                        | false => rfl
                        | true => obtain ⟨k, hk, hm⟩ := dupB_true.1 hd; rw [hnd k hk] at hm; cases hm
                      subst hfz hev
                      have cG : w8.cell? ⟨Gv, 0, none⟩ = some (.pointer (some ⟨G, 0, none⟩)) := by rw [HG.out.2.1]; exact HMH.out.full.cg
                      have cN : w8.cell? ⟨Nv, 0, none⟩ = some (.slice va ns.length vc) := by rw [HG.out.2.2]; exact HMH.out.full.cn
                      have c2 := HMH.out.full.c2
                      have c3 := HMH.out.full.c3
                      have hlK : l'.length = ns.length + 1 := by rw [hl', List.length_append]; simp; exact HLN.out.1
                      have hKK := HLN.out.2
                      have hr1 : r'.length = ns.length + 1 := by rw [hr']; simp [length_rvN]
                      have hlen : ∀ (q : Nat) ty, (Builtin.len_ #[77] ty #[.map mo']).run Ybaf.prog (w8.drewN q) = .ok (.int .i64 ((ns.length : Int) + 1)) (w8.drewN q) := fun q ty => by
                        have h1 := (HMH.out.full.idx.drewN q).len HMH.out.index.1 ty
                        rw [hr1] at h1
                        simpa using h1
                      rw [hlK] at c2
                      have HRL : Hid (r' = name :: rvN P ns ∧ l' = l ++ [(name, Value.slice da n dc, fnv nd)] ∧ l'.length = ns.length + 1 ∧ l.length = ns.length) := ⟨hr', hl', hlK, HLN.out.1⟩
                      clear hnm hnd hr' hl' hlK hr1 HLN
                      go_wp2_with fail
                      go_quiet (fail)
                      have HMN := HMH.out.next (below_drewN (Below.refl w8.heap.size w8) nq)
                      have hdc : l'[ns.length]? = some (name, Value.slice da n dc, fnv nd) := by rw [HRL.out.2.1, List.getElem?_append_right (by rw [HRL.out.2.2.2]; exact Nat.le_refl _), HRL.out.2.2.2]; simp
                      obtain ⟨db, rfl⟩ : ∃ db, dva = some ⟨db, 0, none⟩ := by
                        have hD := HMN.full.rD
                        obtain ⟨_, ⟨hv, h0⟩ | ⟨g, cap, cur, hv, _⟩⟩ := hD
                        · have := HRL.out.2.2.1; omega
                        · cases hv; exact ⟨g, rfl⟩
                      obtain ⟨e1, e2, e3⟩ := dcs_get hdc
                      have d0 := HMN.full.rD.cells (g := db) rfl _ _ e1
                      have d1 := HMN.full.rD.cells (g := db) rfl _ _ e2
                      have d2 := HMN.full.rD.cells (g := db) rfl _ _ e3
                      rw [Addr.add_mid, Nat.zero_add] at d0 d1 d2
                      obtain ⟨w9, hw9⟩ : ∃ w9 : World, w9 = w8.drewN nq := ⟨_, rfl⟩
                      rw [← hw9] at HMN d0 d1 d2 ⊢
                      have HB9 : Hid (Below w.heap.size w w9) := by rw [hw9]; exact below_drewN HBFH.out nq
                      clear cG cN c2 c3 hlen HMH HBFH hw9 e1 e2 e3 hdc
                      have HMNH : Hid (Mid G m P ns l (.slice va ns.length vc) (.slice ka ns.length kc) mo po w0 false aF aD name da n dc f (fnv nd) ca .nilIface l' (.slice (some ⟨db, 0, none⟩) l'.length dvc) mo' r' w9) := HMN
                      have cG : w9.cell? ⟨Gv, 0, none⟩ = some (.pointer (some ⟨G, 0, none⟩)) := by rw [HG.out.2.1]; exact HMN.full.cg
                      have cN : w9.cell? ⟨Nv, 0, none⟩ = some (.slice va ns.length vc) := by rw [HG.out.2.2]; exact HMN.full.cn
                      have c2 := HMN.full.c2
                      rw [HRL.out.2.2.1] at c2
                      have zG : G < w9.heap.size := lt_of_heap HMN.full.gblk
                      have zV : Gv < w9.heap.size := World.block_lt_of_cell? w9 _ cG
                      have zN : Nv < w9.heap.size := World.block_lt_of_cell? w9 _ cN
                      have zD : db < w9.heap.size := World.block_lt_of_cell? w9 _ d0
                      have hone := fnv_one nd
                      have hcel : (fnv nd).cells = #[fnv nd] := by cases nd <;> rfl
                      clear HMN
                      go_wp2_with fail
                      go_region
                      go_wp2_with fail
                      refine (equal_true da ca n dc cc f _ (by omega) ?he1 ?he2).mono ?_
                      case he1 => exact HMNH.out.sa.below (((Below.refl w9.heap.size w9).alloc (Nat.le_refl _) _).drew) (Nat.le_refl _)
                      case he2 => exact HMNH.out.sc.below (((Below.refl w9.heap.size w9).alloc (Nat.le_refl _) _).drew) (Nat.le_refl _)
                      rintro e wA ⟨rfl, q, hwA⟩
                      have hbA : Below w9.heap.size w9 wA := by rw [hwA]; exact below_drewN (((Below.refl w9.heap.size w9).alloc (Nat.le_refl _) _).drew) q
                      have y1 : wA.cell? ⟨w9.heap.size, 1, none⟩ = some (.slice da n dc) := by rw [hwA, World.cell?_drewN]; simp
                      have y2 : wA.cell? ⟨w9.heap.size, 2, none⟩ = some (fnv nd) := by rw [hwA, World.cell?_drewN]; simp
                      have x0 : wA.cell? ⟨Gv, 0, none⟩ = some (.pointer (some ⟨G, 0, none⟩)) := (hbA.cell (by exact zV)).trans cG
                      have x1 : wA.cell? ⟨Nv, 0, none⟩ = some (.slice va ns.length vc) := (hbA.cell (by exact zN)).trans cN
                      have x3 : wA.cell? ⟨G, 3, none⟩ = some (.map mo') := (hbA.cell (by exact zG)).trans HMNH.out.full.c3
                      have hixA := (HMNH.out.next hbA).full.idx
                      obtain ⟨a5, hlk, ha5⟩ := hixA.look name HSE.out.2.2.1
                      have hrk : r'.reverse[ns.length]? = some name := by rw [HRL.out.1, List.reverse_cons, List.getElem?_append_right (by simp [length_rvN]), List.length_reverse, length_rvN]; simp
                      obtain rfl := ha5 ns.length HMNH.out.index.1 hrk
                      rw [show memB name r' = true from memB_iff.2 (by rw [HRL.out.1]; exact List.mem_cons_self)] at hlk
                      have HBE : Hid (Below w.heap.size w wA) := HB9.out.trans (hbA.mono HB9.out.size)
                      have hsl := fun w => Lib.run_eql_slice_nil (P := Ybaf.prog) w 72 9 da n dc 0 0 Ybaf.underlying72
                      clear hwA hbA hixA ha5 hrk cG cN c2 d0 d1 d2
                      go_wp2
                      go_ret
                      exact ⟨rfl, HBE.out⟩
end Go.Proofs.YbulkecmmFmt
