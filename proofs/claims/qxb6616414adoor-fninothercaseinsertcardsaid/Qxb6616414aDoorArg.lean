/-
  An argument of strings, opened.
-/
import Derived.Test.Qxb6616414aDoorW7
import Derived.Test.Qxb6616414aDoorLaid
import Derived.SliceStrings
import Derived.OpenShut
import Derived.ChangeSlices
import Derived.ProofKit
import Derived.WideShapes
namespace Go.Proofs.Qxb6616414aDoor
open Go.ChangeShapes Go.WideShapes Go.ChangeAt Go.RowKit Go.Lib Go.Shelf
set_option maxRecDepth 100000

theorem cells9 : Tryd.prog.cellsOf 9 = 1 := by kernel_rfl
theorem laidOut : laidOutB Tryd.pinned.checked.prog = true := by kernel_rfl

theorem arg_of {H : Type} {enc : TypeId × Value → H} {W : World} {b0 : Nat} {v : Value} {d : DataW H} {p : List MemPlace} (hval : Value.okWide Tryd.prog W .any b0 22 v) (h : DataW.Trod enc Tryd.prog W 0 (fun _ => true) true 22 v d p) : ∃ L, ArgS W v L := by
  obtain ⟨a0, n0, c0, rfl⟩ := okWide_slice Tryd.underlying22 hval
  obtain ⟨fuel, hf⟩ := h
  rcases open_strings Tryd.underlying22 Tryd.underlying9 cells9 hf with ⟨hcs, hx⟩ | ⟨a, len, cap, ss, hcs, _, hl, hm, hz, hx, hcell, hwz⟩
  · simp [Value.cells] at hcs
    obtain ⟨rfl, rfl, rfl⟩ := hcs
    exact ⟨[], .inl ⟨rfl, rfl⟩⟩
  · simp [Value.cells] at hcs
    obtain ⟨rfl, rfl, rfl⟩ := hcs
    simp only [if_true] at hz
    by_cases h0 : n0 = 0
    · subst h0
      exact ⟨[], .inr (.inl ⟨rfl, a, c0, rfl⟩)⟩
    · obtain ⟨R, oR, sR⟩ := a
      obtain rfl : sR = none := by
        have h00 := hcell 0 (by omega)
        have : (Addr.add ⟨R, oR, sR⟩ 0) = ⟨R, oR, sR⟩ := by simp [Addr.add]
        rw [this] at h00
        exact cell_spot h00
      have hlen : (ss.take n0).length = n0 := by simp; omega
      refine ⟨ss.take n0, .inr (.inr ⟨R, oR, c0, by rw [hlen], by omega, hm, fun j x hx => ?_⟩)⟩
      have hj : j < n0 := by
        have := (List.getElem?_eq_some_iff.1 hx).1
        simp at this
        omega
      rw [List.getElem?_take, if_pos hj] at hx
      have := hcell j (by omega)
      rw [Addr.add_lit] at this
      rw [this]
      simp [List.getD, hx]

end Go.Proofs.Qxb6616414aDoor
