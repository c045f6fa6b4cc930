/-
  sbi.InOtherCase over slices.Values: 'Pl.ioc'.
-/
import Derived.Test.Qxb6616414aDoorW4
import Derived.RangeFuncFrom
namespace Go.Proofs.Qxb6616414aDoor
open Go.RowKit Go.Shelf

attribute [local go_sem] Oper.semAt_some

theorem cell_new_l (W : World) (v : Value) (t : TypeId) : (W.alloc (.cells #[v] t)).cell? ⟨W.heap.size, 0, none⟩ = some v ∧ (W.alloc (.cells #[v] t)).frozen? ⟨W.heap.size, 0, none⟩ = false := by
  have h := Row.new W [v] t
  exact ⟨h.cell 0 v rfl, h.free 0⟩
theorem cell_alloc_l {W : World} {a : Addr} {v : Value} (o : Obj) (h : W.cell? a = some v) : (W.alloc o).cell? a = some v := by
  rw [World.cell?_of_block (w := W) (Below.heap_alloc W o a.block (World.block_lt_of_cell? W a h))]; exact h
theorem frozen_alloc_l {W : World} {a : Addr} {v : Value} (o : Obj) (h : W.cell? a = some v) (hf : W.frozen? a = false) : (W.alloc o).frozen? a = false := by
  rw [World.frozen?_of_block (w := W) (Below.heap_alloc W o a.block (World.block_lt_of_cell? W a h))]; exact hf

/-- a callee that turns nothing that lay -/
theorem keeps_below {W W' : World} (h : Below W.heap.size W W') : KeepsOthers W W' :=
  ⟨h.size, fun k o hk _ => by rw [h.block k (Array.getElem?_eq_some_iff.1 hk).1]; exact hk⟩

def plain (zs : List Small) : List (List UInt8) := zs.map fun z => z.1.data.toList

set_option maxRecDepth 100000 in
set_option maxHeartbeats 4000000 in
theorem ioc_in (Bs : Nat) (sv : Value) (zs : List Small) (hz : zs.length ≤ 1048576) (name : ByteArray) (hn : name.size ≤ 1048576) (w : World) (hE : Env w) (hBs : Bs < w.heap.size) (hc : w.cell? ⟨Bs, 0, none⟩ = some sv) (hI : Svals w.heap.size w sv zs) :
    Calls Tryd.prog 10 #[.string name, .func (.func 13) #[] #[.pointer (some ⟨Bs, 0, none⟩)]] w fun e W' => e = .returned (.bool (Pl.ioc name.data.toList (plain zs))) ∧ Below w.heap.size w W' := by
  refine (callsIn_wide (n := 3)).1 ?_
  have h1 : 1 ≤ 3 := by omega
  refine callsIn_of_wp_marks Tryd.func10 rfl trivial ?_ rfl
  simp only [Tryd.ntmps10, List.size_toArray, List.length_cons, List.length_nil, Nat.reduceAdd, Nat.reduceSub, Array.replicate_succ, Array.replicate_zero, List.push_toArray, List.append_toArray, List.nil_append, List.cons_append]
  gi_wp2
  have c0 := cell_new_l w (.string name) 9
  have c1 := cell_new_l (w.alloc (.cells #[.string name] 9)) (.bool false) 4
  have c2 := cell_new_l ((w.alloc (.cells #[.string name] 9)).alloc (.cells #[.bool false] 4)) (.bool false) 4
  simp only [World.size_alloc] at c1 c2
  have hB0 : Below w.heap.size w (((w.alloc (.cells #[.string name] 9)).alloc (.cells #[.bool false] 4)).alloc (.cells #[.bool false] 4)) := (((Below.refl _ w).alloc (Nat.le_refl _) _).alloc (by simp) _).alloc (by simp; omega) _
  refine wpIn_rangeFunc_ownF rfl h1 (gf := 13) (lb := #[.pointer (some ⟨Bs, 0, none⟩)]) rfl trivial (enters_of Tryd.func13 (by kernel_rfl) rfl)
    (values_stops Fence.wide 2 trivial rfl (by omega) Bs w.heap.size sv zs (by omega) _ (by simp; omega) (by simp; omega) ((hB0.cell (p := ⟨Bs, 0, none⟩) hBs).trans hc) (hI.below hB0)) belowK_t (belowK_b (by simp; omega)) (Below.refl _ _) (fun _ => rfl)
    (fun pre W => (name.data.toList ∉ plain pre ∧ W.cell? ⟨w.heap.size, 0, none⟩ = some (.string name) ∧ W.cell? ⟨w.heap.size + 1, 0, none⟩ = some (.bool false) ∧ W.frozen? ⟨w.heap.size + 1, 0, none⟩ = false ∧
      W.cell? ⟨w.heap.size + 1 + 1, 0, none⟩ = some (.bool ((plain pre).any (Pl.fe name.data.toList))) ∧ W.frozen? ⟨w.heap.size + 1 + 1, 0, none⟩ = false) ∧ Below w.heap.size w W)
    (fun c pre W => (c = .ret ∧ name.data.toList ∈ plain pre ∧ W.cell? ⟨w.heap.size + 1, 0, none⟩ = some (.bool false)) ∧ Below w.heap.size w W)
    (OwnFrom.and (Own.from (fun s A B row hs hg hr => ⟨hs.1, cell_kept hs.2.1 hg hr, cell_kept hs.2.2.1 hg hr, (frozen_kept hs.2.2.1 hg hr).trans hs.2.2.2.1, cell_kept hs.2.2.2.2.1 hg hr, (frozen_kept hs.2.2.2.2.1 hg hr).trans hs.2.2.2.2.2⟩) _) (ownFrom_below (Nat.le_refl _) (by simp; omega)))
    (fun c => OwnFrom.and (Own.from (fun s A B row hs hg hr => ⟨hs.1, hs.2.1, cell_kept hs.2.2 hg hr⟩) _) (ownFrom_below (Nat.le_refl _) (by simp; omega)))
    ⟨⟨by simp [plain], cell_alloc_l _ (cell_alloc_l _ c0.1), cell_alloc_l _ c1.1, frozen_alloc_l _ c1.1 c1.2, c2.1, c2.2⟩, hB0⟩
    (fun x => { tmps := #[.string name, .func (.func 13) #[] #[.pointer (some ⟨Bs, 0, none⟩)], .pointer (some ⟨w.heap.size, 0, none⟩), undef, .pointer (some ⟨w.heap.size + 1, 0, none⟩), .pointer (some ⟨w.heap.size + 1 + 1, 0, none⟩), .string x.1, .func (.func 13) #[] #[.pointer (some ⟨Bs, 0, none⟩)], .string x.1, undef, undef, undef, undef, undef, undef, undef, undef, undef, undef], defers := [] }) ?assign ?body ?done ?stop
  case assign =>
    intro l x W K hK
    gi_wp2
    exact hK
  case body =>
    rintro l pre x W ⟨⟨hno, hcn, hcr, hfr, hcf, hff⟩, hB⟩ _
    have hd : 1 ≤ 3 - 1 - 1 := by omega
    have hEW := hE.below hB
    have hsnoc : plain (pre ++ [x]) = plain pre ++ [x.1.data.toList] := by simp [plain]
    have HSN : Hid _ := hsnoc
    clear hsnoc
    by_cases hx : x.1 = name
    · have hxb : (x.1.toList == name.toList) = true := by rw [hx]; simp
      gi_wp2
      exact ⟨KeepsOthers.setCell _ _ _, ⟨rfl, by rw [HSN.out, hx]; simp, World.cell?_setCell_same' _ _ _ (by rw [hcr]; rfl)⟩, hB.setCell (p := ⟨w.heap.size + 1, 0, none⟩) (by simp) _⟩
    · have hxb := str_ne hx
      have hno2 : name.data.toList ∉ plain (pre ++ [x]) := by
        rw [HSN.out]
        intro h
        rcases List.mem_append.1 h with h | h
        · exact hno h
        · simp at h
          exact hx (bytes_ext (by rw [h]))
      have HNO : Hid _ := hno2
      clear hno2
      have hany : (plain (pre ++ [x])).any (Pl.fe name.data.toList) = ((plain pre).any (Pl.fe name.data.toList) || Pl.fe name.data.toList x.1.data.toList) := by rw [HSN.out, List.any_append]; simp
      have HAN : Hid _ := hany
      clear hany
      cases hb : (plain pre).any (Pl.fe name.data.toList) with
      | true =>
        rw [hb] at hcf
        have hfin : (plain (pre ++ [x])).any (Pl.fe name.data.toList) = true := by rw [HAN.out, hb]; rfl
        have HFI : Hid _ := hfin
        clear hfin hb HAN
        gi_wp2
        refine ⟨trivial, ?_⟩
        gi_wp2
        refine ⟨KeepsOthers.setCell _ _ _, (Below.refl w.heap.size W).setCell (p := ⟨w.heap.size + 1 + 1, 0, none⟩) (by simp; omega) _, ⟨HNO.out, ?_, ?_, ?_, ?_, ?_⟩, hB.setCell (p := ⟨w.heap.size + 1 + 1, 0, none⟩) (by simp; omega) _⟩
        · rw [World.cell?_setCell_other _ _ _ _ (by simp)]; exact hcn
        · rw [World.cell?_setCell_other _ _ _ _ (by simp)]; exact hcr
        · rw [World.frozen?_setCell]; exact hfr
        · rw [HFI.out]; exact World.cell?_setCell_same' _ _ _ (by rw [hcf]; rfl)
        · rw [World.frozen?_setCell]; exact hff
      | false =>
        rw [hb] at hcf
        have hfin : (plain (pre ++ [x])).any (Pl.fe name.data.toList) = Pl.fe name.data.toList x.1.data.toList := by rw [HAN.out, hb]; rfl
        have HFI : Hid _ := hfin
        clear hfin hb HAN
        gi_wp2_with (refine ⟨trivial, ?_⟩; gi_at_call 12; refine (CallsIn.inRound l (callsIn_wide.2 (fold_any name x.1 W hEW hn x.2))).mono ?_; rintro e W2 ⟨rfl, hb2⟩; have q0 := cell_stays hcn hb2; have q1 := cell_stays hcr hb2; have q2 := cell_stays hcf hb2; have p1 := (hb2.frozen (World.block_lt_of_cell? W _ hcr)).trans hfr; have p2 := (hb2.frozen (World.block_lt_of_cell? W _ hcf)).trans hff)
        have hsz := hB.size
        have hBb : Below w.heap.size W W2 := hb2.mono hB.size
        refine ⟨(keeps_below hb2).trans (KeepsOthers.setCell _ _ _), hBb.setCell (p := ⟨w.heap.size + 1 + 1, 0, none⟩) (by simp; omega) _, ⟨HNO.out, ?_, ?_, ?_, ?_, ?_⟩, (hB.trans hBb).setCell (p := ⟨w.heap.size + 1 + 1, 0, none⟩) (by simp; omega) _⟩
        · rw [World.cell?_setCell_other _ _ _ _ (by simp)]; exact q0
        · rw [World.cell?_setCell_other _ _ _ _ (by simp)]; exact q1
        · rw [World.frozen?_setCell]; exact p1
        · rw [HFI.out]; exact World.cell?_setCell_same' _ _ _ (by rw [q2]; rfl)
        · rw [World.frozen?_setCell]; exact p2
  case done =>
    rintro D ys W hD rfl ⟨⟨hno, _, hcr, hfr, hcf, _⟩, hB⟩ hK
    gi_wp2
    have hK' := (KeepsOthers.setCell W ⟨w.heap.size + 1, 0, none⟩ (.bool ((plain ys).any (Pl.fe name.data.toList)))).same D _ hK rfl
    refine ⟨by simp, .inl ⟨_, _, rfl, run_takeDeferred hK', ?_⟩⟩
    have hc5 := cell_kept (World.cell?_setCell_same' W ⟨w.heap.size + 1, 0, none⟩ (.bool ((plain ys).any (Pl.fe name.data.toList))) (by rw [hcr]; rfl)) (grownBy_putObj' _ D (.deferred none)) (fun r e => by cases e; exact ⟨_, hK', rfl⟩)
    have hio : Pl.ioc name.data.toList (plain ys) = (plain ys).any (Pl.fe name.data.toList) := by
      unfold Pl.ioc
      have : (plain ys).contains name.data.toList = false := by
        cases h : (plain ys).contains name.data.toList with
        | false => rfl
        | true => exact absurd (List.contains_iff_mem.1 h) hno
      rw [this]
      rfl
    refine ⟨.bool ((plain ys).any (Pl.fe name.data.toList)), ?_, by rw [hio], (hB.setCell (p := ⟨w.heap.size + 1, 0, none⟩) (by simp) _).trans (belowK_b (w := w) (Nat.le_refl _) _ D _ _ (by simp at hD; omega) hK' rfl rfl)⟩
    simp [results, Tryd.f10, go_sem, hc5]
  case stop =>
    rintro D c pre W hD hpre ⟨⟨rfl, hin, hcr⟩, hB⟩ hK
    gi_wp2
    refine ⟨by simp, .inl ⟨_, _, rfl, run_takeDeferred hK, ?_⟩⟩
    have hc5 := cell_kept hcr (grownBy_putObj' _ D (.deferred none)) (fun r e => by cases e; exact ⟨_, hK, rfl⟩)
    have hio : Pl.ioc name.data.toList (plain zs) = false := by
      have hm : name.data.toList ∈ plain zs := by
        obtain ⟨z, hz1, hz2⟩ := List.mem_map.1 hin
        exact List.mem_map.2 ⟨z, hpre.subset hz1, hz2⟩
      unfold Pl.ioc
      have : (plain zs).contains name.data.toList = true := List.contains_iff_mem.2 hm
      rw [this]
      rfl
    refine ⟨.bool false, ?_, by rw [hio], hB.trans (belowK_b (w := w) (Nat.le_refl _) W D _ _ (by simp at hD; omega) hK rfl rfl)⟩
    simp [results, Tryd.f10, go_sem, hc5]

end Go.Proofs.Qxb6616414aDoor
