/-
  The copies that the laws make first.
-/
import Derived.Test.Qxb6616414aDoorW8
import Derived.Laws.CopyOwn
namespace Go.Proofs.Qxb6616414aDoor
open Go.RowKit Go.Shelf

theorem strs_one (L : List ByteArray) : ∀ v ∈ L.map Value.string, v.oneCell' = true := by
  intro v hv
  obtain ⟨_, _, rfl⟩ := List.mem_map.1 hv
  rfl

/-- what make and copy leave -/
def copied (w : World) (L : List ByteArray) : World := (w.alloc (.cells (madeCells #[.string ⟨#[]⟩] L.length) 9)).setRow w.heap.size (L.map Value.string).toArray

theorem copied_strs (w : World) (L : List ByteArray) : Strs (copied w L) (.slice (some ⟨w.heap.size, 0, none⟩) L.length L.length) L :=
  .inr ⟨w.heap.size, rfl, setRow_heap _ _ _ _ _ _ (heap_alloc_new w _)⟩
theorem copied_below (w : World) (L : List ByteArray) : Below w.heap.size w (copied w L) := below_setRow ((Below.refl _ w).alloc (Nat.le_refl _) _) (Nat.le_refl _) _

theorem copy_run (w : World) (ad : Addr) (c : Nat) (L : List ByteArray) (h : ArgS w (.slice (some ad) L.length c) L) :
    (Builtin.copy_ #[22, 22] 3 #[.slice (some ⟨w.heap.size, 0, none⟩) L.length L.length, .slice (some ad) L.length c]).run Tryd.prog (w.alloc (.cells (madeCells #[.string ⟨#[]⟩] L.length) 9)) = .ok (goInt L.length) (copied w L) := by
  obtain ⟨i9, h9, z9, s9, b9⟩ := info_parts info9
  have hcl : (L.map Value.string).length = L.length := by simp
  have := run_copy_row (P := Tryd.prog) (w.alloc (.cells (madeCells #[.string ⟨#[]⟩] L.length) 9)) 22 22 3 9 w.heap.size 0 L.length L.length ad L.length c (madeCells #[.string ⟨#[]⟩] L.length) 9 (L.map Value.string) Tryd.underlying22 (by rw [h9]; simp [s9]) (heap_alloc_new w _)
    (by rw [hcl]; simp) (fun j u hj => by
      simp only [List.getElem?_map, Option.map_eq_some_iff] at hj
      obtain ⟨x, hx, rfl⟩ := hj
      obtain ⟨b, off, e, hc⟩ := h.cells j x hx
      cases e
      have e2 : (⟨b, off, none⟩ : Addr).add j = ⟨b, off + j, none⟩ := by unfold Addr.add; split <;> simp_all
      rw [e2]
      exact cell_alloc_l _ hc) (by rw [hcl, size_madeCells]; omega) (strs_one L)
  rw [hcl] at this
  rw [this]
  have hd : List.drop (0 + L.length) (madeCells #[.string ⟨#[]⟩] L.length).toList = [] := List.drop_of_length_le (by rw [Array.length_toList, size_madeCells]; omega)
  rw [hd, List.append_nil, List.take_zero, List.nil_append]
  rfl

theorem Strs.len {w : World} {v : Value} {L : List ByteArray} (h : Strs w v L) : ∃ ad, v = .slice ad L.length L.length ∧ ∀ (j : Nat) x, L[j]? = some x → ∃ g, ad = some ⟨g, 0, none⟩ ∧ w.cell? ⟨g, j, none⟩ = some (.string x) := by
  rcases h with ⟨rfl, rfl⟩ | ⟨g, rfl, hR⟩
  · exact ⟨none, rfl, fun j x hx => by simp at hx⟩
  · exact ⟨_, rfl, fun j x hx => ⟨g, rfl, hR.cell j _ (by simp [hx])⟩⟩

end Go.Proofs.Qxb6616414aDoor
