/-
  A ROW OF CELLS IN A BLOCK OF ITS OWN, by the list of its cells: read, store, new blocks, old blocks.
-/
import Derived.WalkKit
import Derived.WalkSpells
namespace Go.Proofs.Qxb6614922aDoor
open Go.RowKit

/-- Block b holds the cells vs, of element type T, none of them frozen. -/
def Row (w : World) (b : Nat) (T : TypeId) (vs : List Value) : Prop := w.heap[b]? = some (.cells vs.toArray T (0, 0))

theorem Row.lt {w : World} {b : Nat} {T : TypeId} {vs : List Value} (h : Row w b T vs) : b < w.heap.size := lt_of_block h
theorem Row.cell {w : World} {b : Nat} {T : TypeId} {vs : List Value} (h : Row w b T vs) (j : Nat) (v : Value) (hj : vs[j]? = some v) : w.cell? ⟨b, j, none⟩ = some v := by
  unfold Row at h
  simp [World.cell?, h, hj]
theorem Row.free {w : World} {b : Nat} {T : TypeId} {vs : List Value} (h : Row w b T vs) (j : Nat) : w.frozen? ⟨b, j, none⟩ = false := by
  unfold Row at h
  simp [World.frozen?, h]
theorem Row.set {w : World} {b : Nat} {T : TypeId} {vs : List Value} (h : Row w b T vs) (j : Nat) (u : Value) : Row (w.setCell ⟨b, j, none⟩ u) b T (vs.set j u) := by
  have := heap_setCell_same w b j vs.toArray T u h
  unfold Row
  rw [this]
  simp
theorem Row.other {w : World} {b : Nat} {T : TypeId} {vs : List Value} (h : Row w b T vs) {a : Addr} (ha : b ≠ a.block) (u : Value) : Row (w.setCell a u) b T vs := by
  unfold Row
  rw [Below.heap_setCell _ _ _ _ ha]
  exact h
theorem Row.alloc {w : World} {b : Nat} {T : TypeId} {vs : List Value} (h : Row w b T vs) (o : Obj) : Row (w.alloc o) b T vs := by
  unfold Row
  rw [Below.heap_alloc _ _ _ h.lt]
  exact h
theorem Row.new (w : World) (vs : List Value) (T : TypeId) : Row (w.alloc (.cells vs.toArray T)) w.heap.size T vs := heap_alloc_new w _
theorem Row.below {w w' : World} {b B : Nat} {T : TypeId} {vs : List Value} (h : Row w b T vs) (hb : Below B w w') (hlt : b < B) : Row w' b T vs := by
  unfold Row
  rw [hb.block b hlt]
  exact h
theorem Row.drew {w : World} {b : Nat} {T : TypeId} {vs : List Value} (h : Row w b T vs) : Row w.drew b T vs := h

theorem made_list (z : Value) (n : Nat) : madeCells #[z] n = (List.replicate n z).toArray := by
  rw [← toList_madeCells_one]

/-- A row that is being filled from the left: k elements laid, the rest still as 'make' laid them. -/
def fill {α : Type} (f : α → Value) (z : Value) (l : List α) (k : Nat) : List Value := (l.take k).map f ++ List.replicate (l.length - k) z
theorem fill_zero {α : Type} (f : α → Value) (z : Value) (l : List α) : fill f z l 0 = List.replicate l.length z := by simp [fill]
theorem fill_all {α : Type} (f : α → Value) (z : Value) (l : List α) : fill f z l l.length = l.map f := by simp [fill]
theorem fill_length {α : Type} (f : α → Value) (z : Value) (l : List α) (k : Nat) : (fill f z l k).length = l.length := by simp [fill]; omega
theorem fill_set {α : Type} (f : α → Value) (z : Value) (l : List α) (k : Nat) (x : α) (hx : l[k]? = some x) : (fill f z l k).set k (f x) = fill f z l (k + 1) := by
  have hk : k < l.length := (List.getElem?_eq_some_iff.1 hx).1
  have hxx : l[k] = x := (List.getElem?_eq_some_iff.1 hx).2
  unfold fill
  rw [List.take_succ_eq_append_getElem hk, List.map_append]
  have e1 : l.length - k = (l.length - (k + 1)) + 1 := by omega
  have e2 : ((l.take k).map f).length = k := by simp; omega
  rw [List.set_append_right _ _ (by omega), e2, Nat.sub_self, e1, List.replicate_succ, List.set_cons_zero]
  simp [hxx]
theorem fill_at {α : Type} (f : α → Value) (z : Value) (l : List α) (k : Nat) (hk : k < l.length) : (fill f z l k)[k]? = some z := by
  have e : ((l.take k).map f).length = k := by simp; omega
  unfold fill
  rw [List.getElem?_append_right (by omega), e, Nat.sub_self, List.getElem?_replicate, if_pos (by omega)]

end Go.Proofs.Qxb6614922aDoor
