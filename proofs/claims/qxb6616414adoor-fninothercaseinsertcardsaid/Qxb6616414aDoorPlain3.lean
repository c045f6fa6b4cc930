/-
  The plain laws of the second law: a name or its swap put into a list, a list turned around; a row filled from the right.
-/
import Derived.Test.Qxb6616414aDoorPlain2
import Derived.Test.Qxb6616414aDoorRow
namespace Go.Proofs.Qxb6616414aDoor
open Go.RowKit Go.Shelf

namespace Pl

theorem ioc_has (n : List UInt8) (l r : List (List UInt8)) : ioc n (l ++ n :: r) = false := by
  unfold ioc
  simp
theorem ioc_put (n : List UInt8) (l r : List (List UInt8)) : ioc n (l ++ flip n :: r) = (!(flip n == n) && !(l ++ r).contains n) := by
  unfold ioc
  by_cases h : flip n = n
  · simp [h]
  · have h' : ¬ n = flip n := fun e => h e.symm
    simp [fe_flip, h, h']
theorem ioc_reverse (n : List UInt8) (l : List (List UInt8)) : ioc n l.reverse = ioc n l := by
  unfold ioc
  rw [List.contains_reverse, List.any_reverse]

end Pl

/-- a list with one more put in at i -/
def put {α : Type} (l : List α) (i : Nat) (x : α) : List α := l.take i ++ x :: l.drop i
theorem put_length {α : Type} (l : List α) (i : Nat) (x : α) (h : i ≤ l.length) : (put l i x).length = l.length + 1 := by
  simp [put]; omega
theorem put_low {α : Type} (l : List α) (i : Nat) (x : α) (h : i ≤ l.length) (k : Nat) (hk : k < i) : (put l i x)[k]? = l[k]? := by
  unfold put
  rw [List.getElem?_append_left (by simp; omega), List.getElem?_take, if_pos hk]
theorem put_at {α : Type} (l : List α) (i : Nat) (x : α) (h : i ≤ l.length) : (put l i x)[i]? = some x := by
  unfold put
  have e : (l.take i).length = i := by simp; omega
  rw [List.getElem?_append_right (by omega), e, Nat.sub_self]
  rfl
theorem put_high {α : Type} (l : List α) (i : Nat) (x : α) (h : i ≤ l.length) (k : Nat) (hk : i ≤ k) : (put l i x)[k + 1]? = l[k]? := by
  unfold put
  have e : (l.take i).length = i := by simp; omega
  rw [List.getElem?_append_right (by omega), e, show k + 1 - i = (k - i) + 1 by omega, List.getElem?_cons_succ, List.getElem?_drop, show i + (k - i) = k by omega]
theorem put_mem {α : Type} (l : List α) (i : Nat) (x y : α) (hy : y ∈ put l i x) : y = x ∨ y ∈ l := by
  unfold put at hy
  rcases List.mem_append.1 hy with h | h
  · exact .inr (List.mem_of_mem_take h)
  · rcases List.mem_cons.1 h with h | h
    · exact .inl h
    · exact .inr (List.mem_of_mem_drop h)
theorem put_map {α β : Type} (f : α → β) (l : List α) (i : Nat) (x : α) : (put l i x).map f = (l.map f).take i ++ f x :: (l.map f).drop i := by
  simp [put]

/-- a row that is being filled from the right -/
def fillR {α : Type} (f : α → Value) (z : Value) (l : List α) (k : Nat) : List Value := List.replicate (l.length - k) z ++ ((l.take k).reverse).map f
theorem fillR_zero {α : Type} (f : α → Value) (z : Value) (l : List α) : fillR f z l 0 = List.replicate l.length z := by simp [fillR]
theorem fillR_all {α : Type} (f : α → Value) (z : Value) (l : List α) : fillR f z l l.length = (l.reverse).map f := by simp [fillR]
theorem fillR_at {α : Type} (f : α → Value) (z : Value) (l : List α) (k : Nat) (hk : k < l.length) : (fillR f z l k)[l.length - 1 - k]? = some z := by
  unfold fillR
  rw [List.getElem?_append_left (by simp; omega), List.getElem?_replicate, if_pos (by omega)]
theorem fillR_set {α : Type} (f : α → Value) (z : Value) (l : List α) (k : Nat) (x : α) (hx : l[k]? = some x) : (fillR f z l k).set (l.length - 1 - k) (f x) = fillR f z l (k + 1) := by
  have hk : k < l.length := (List.getElem?_eq_some_iff.1 hx).1
  have hxx : l[k] = x := (List.getElem?_eq_some_iff.1 hx).2
  unfold fillR
  rw [show l.length - k = (l.length - (k + 1)) + 1 by omega, List.replicate_succ', List.append_assoc, List.set_append_right _ _ (by simp; omega), List.length_replicate,
    show l.length - 1 - k - (l.length - (k + 1)) = 0 by omega, List.take_succ_eq_append_getElem hk]
  simp [hxx]

end Go.Proofs.Qxb6616414aDoor
