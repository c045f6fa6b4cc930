/-
  ZZInOtherCase over a slice of strings of the call's own.
-/
import Derived.Test.Qxb6616414aDoorW5
namespace Go.Proofs.Qxb6616414aDoor
open Go.RowKit Go.Shelf

theorem strs_vals {w : World} {v : Value} {L : List ByteArray} (h : Strs w v L) (hs : ∀ x ∈ L, x.size ≤ 1048576) : ∃ zs : List Small, zs.length = L.length ∧ plain zs = lists L ∧ Svals w.heap.size w v zs := by
  refine ⟨L.attach.map fun x => ⟨x.1, hs x.1 x.2⟩, by simp, ?_, ?_⟩
  · simp [plain, lists, List.map_attach_eq_pmap]
  · rcases h with ⟨rfl, rfl⟩ | ⟨g, rfl, hR⟩
    · exact .inl ⟨rfl, rfl⟩
    · refine .inr ⟨g, 0, L.length, by simp, hR.lt, fun j hj => ?_⟩
      have hj' : j < L.length := by simpa using hj
      rw [Nat.zero_add]
      refine hR.cell j _ ?_
      simp [hj']

theorem Strs.below {w w' : World} {v : Value} {L : List ByteArray} (h : Strs w v L) (hb : Below w.heap.size w w') : Strs w' v L := by
  rcases h with h | ⟨g, e, hR⟩
  · exact .inl h
  · exact .inr ⟨g, e, hR.below hb hR.lt⟩

set_option maxHeartbeats 1000000 in
set_option maxRecDepth 100000 in
theorem zz_any (v : Value) (L : List ByteArray) (name : ByteArray) (hn : name.size ≤ 1048576) (hl : L.length ≤ 1048576) (hs : ∀ x ∈ L, x.size ≤ 1048576) (w : World) (hE : Env w) (h : Strs w v L) :
    Calls Tryd.prog 6 #[.string name, v] w fun e w' => e = .returned (.bool (Pl.ioc name.data.toList (lists L))) ∧ Below w.heap.size w w' := by
  obtain ⟨zs, hz, hp, hv⟩ := strs_vals h hs
  obtain ⟨ad, n, c, rfl⟩ : ∃ ad n c, v = .slice ad n c := by
    rcases h with ⟨rfl, _⟩ | ⟨g, rfl, _⟩ <;> exact ⟨_, _, _, rfl⟩
  have hb0 := (Below.refl w.heap.size w).alloc (Nat.le_refl _) (.cells #[.slice ad n c] 22)
  have hv1 : Svals (w.alloc (.cells #[.slice ad n c] 22)).heap.size (w.alloc (.cells #[.slice ad n c] 22)) (.slice ad n c) zs := by
    rcases hv.below hb0 with e | ⟨b, off, cap, e, hb, hc⟩
    · exact .inl e
    · exact .inr ⟨b, off, cap, e, by simp; omega, hc⟩
  rw [← hp]
  clear h hv
  go_enter Tryd.func6, Tryd.ntmps6
  go_wp2_with fail
  refine (callsIn_wide.1 (values_in Fence.wide 3 trivial rfl ad n c w)).mono ?_
  rintro e w1 ⟨rfl, rfl⟩
  go_wp2_with fail
  refine (ioc_in w.heap.size (.slice ad n c) zs (by omega) name hn _ (hE.below hb0) (by simp) (by simp) hv1).mono ?_
  rintro e w2 ⟨rfl, hb⟩
  go_wp2
  go_ret
  exact ⟨ret_bool (by rw [hp]), hb0.trans (hb.mono (by simp))⟩

end Go.Proofs.Qxb6616414aDoor
