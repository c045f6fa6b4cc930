/-
  strings.Split at the slash gives the plain pieces; the parse's steps, piece by piece. No walk.
-/
import Derived.Test.Qxb6616416aFmtPlain2
import Derived.Test.Qxb6616416aFmtW3
import Derived.Lib.SplitLaws
import Derived.Lib.IndexBytes
namespace Go.Proofs.Qxb6616416aFmt
open Go.RowKit

theorem split_plain (x : List UInt8) (h : x.count 47 = 0) : Pl.split x = [x] := by
  induction x with
  | nil => rfl
  | cons c r ih =>
    have hc : c ≠ 47 := fun e => by subst e; simp at h
    have hr : r.count 47 = 0 := by rw [List.count_cons] at h; omega
    rw [Pl.split, if_neg hc, ih hr]

theorem splitK_one (k : Nat) : ∀ s : List UInt8, s.count 47 = k → Lib.splitK [47] 0 k s = Pl.split s := by
  induction k with
  | zero => intro s h; rw [split_plain s h]; rfl
  | succ k ih =>
    intro s h
    have hi : Lib.index s [47] = Lib.indexByte s 47 := Lib.index_one s 47
    rcases Int.lt_or_le (Lib.indexByte s 47) 0 with hneg | hpos
    · have hm : Lib.indexByte s 47 = -1 := by have := Lib.indexByte_ge s 47; omega
      have hno := Lib.indexByte_none hm
      have : s.count 47 = 0 := List.count_eq_zero.2 fun hmem => by
        obtain ⟨j, hj, hje⟩ := List.getElem_of_mem hmem
        exact hno j (by rw [List.getElem?_eq_getElem hj, hje])
      omega
    · obtain ⟨i, hie⟩ := Int.eq_ofNat_of_zero_le hpos
      obtain ⟨h1, h2⟩ := Lib.indexByte_some hie
      obtain ⟨hil, hiv⟩ := List.getElem?_eq_some_iff.1 h1
      have es : s = s.take i ++ 47 :: s.drop (i + 1) := by
        conv => lhs; rw [← List.take_append_drop i s, List.drop_eq_getElem_cons hil, hiv]
      have hc0 : (s.take i).count 47 = 0 := List.count_eq_zero.2 fun hmem => by
        obtain ⟨j, hj, hje⟩ := List.getElem_of_mem hmem
        have hji : j < i := by have := hj; simp at this; omega
        rw [List.getElem_take] at hje
        exact h2 j hji (by rw [List.getElem?_eq_getElem (by omega), hje])
      have hcd : (s.drop (i + 1)).count 47 = k := by
        rw [es, List.count_append, List.count_cons, hc0] at h
        simp at h
        exact h
      have hs : Pl.split s = s.take i :: Pl.split (s.drop (i + 1)) := by
        conv => lhs; rw [es]
        rw [Pl.split_append, split_plain _ hc0]
        rfl
      rw [hs, Lib.splitK, hi, hie, if_neg (by simp), ← ih _ hcd]
      simp

/-- what strings.Split lays at the slash -/
def parts (t : ByteArray) : List ByteArray := Lib.splitB ⟨#[47]⟩ 0 (Lib.countB t ⟨#[47]⟩) t
theorem parts_data (t : ByteArray) : (parts t).map (·.data.toList) = Pl.split t.data.toList := by
  unfold parts
  rw [Lib.splitB_data]
  have e : (⟨#[47]⟩ : ByteArray).data.toList = [47] := rfl
  have hc : Lib.countB t ⟨#[47]⟩ = t.data.toList.count 47 := by
    show Lib.count t.data.toList (⟨#[47]⟩ : ByteArray).data.toList = _
    rw [e]
    exact Lib.count_one 47 _
  rw [e, splitK_one _ _ hc.symm]
theorem parts_length (t : ByteArray) : (parts t).length = Lib.countB t ⟨#[47]⟩ + 1 := Lib.splitB_all _ (by decide) 0 _ _ rfl
theorem parts_count (t : ByteArray) : (parts t).length = t.data.toList.count 47 + 1 := by
  have := congrArg List.length (parts_data t)
  rw [List.length_map, Pl.split_length] at this
  exact this

/-- a split's pieces are no longer than the text -/
theorem split_piece (x p : List UInt8) (h : p ∈ Pl.split x) : p.length ≤ x.length := by
  induction x generalizing p with
  | nil => simp [Pl.split] at h; subst h; simp
  | cons c r ih =>
    by_cases hc : c = 47
    · rw [Pl.split, if_pos hc] at h
      rcases List.mem_cons.1 h with rfl | h
      · simp
      · have := ih p h; simp; omega
    · rw [Pl.split, if_neg hc] at h
      cases hs : Pl.split r with
      | nil => exact absurd hs (Pl.split_ne r)
      | cons q qs =>
        rw [hs] at h ih
        rcases List.mem_cons.1 h with rfl | h
        · have := ih q (by simp); simp; omega
        · have := ih p (by simp [h]); simp; omega
theorem parts_size (t p : ByteArray) (h : p ∈ parts t) : p.size ≤ t.size := by
  have h1 : p.data.toList ∈ Pl.split t.data.toList := by rw [← parts_data]; exact List.mem_map_of_mem h
  have := split_piece _ _ h1
  simpa using this

def toSeg (g : Int × ByteArray) : Pl.Seg := (g.1, g.2.data.toList)
def toSegs (l : List (Int × ByteArray)) : List Pl.Seg := l.map toSeg

/-- the parse so far: the first k pieces have come to 'done' -/
def Parsed (P : List Pl.Bytes) (k : Nat) (many : Int) (done : List (Int × ByteArray)) : Prop :=
  done.length = k ∧ Pl.scan Pl.okLit 0 (-1) P = (Pl.scan Pl.okLit k many (P.drop k)).map fun r => (toSegs done ++ r.1, r.2)

theorem parsed_start (P : List Pl.Bytes) : Parsed P 0 (-1) [] := ⟨rfl, by cases h : Pl.scan Pl.okLit 0 (-1) P <;> simp [toSegs, h]⟩
theorem parsed_end {P : List Pl.Bytes} {k : Nat} {many : Int} {done : List (Int × ByteArray)} (h : Parsed P k many done) (hk : P.length ≤ k) : Pl.scan Pl.okLit 0 (-1) P = some (toSegs done, many) := by
  rw [h.2, List.drop_of_length_le hk]
  simp [Pl.scan]

section
variable {P : List Pl.Bytes} {k : Nat} {many : Int} {done : List (Int × ByteArray)} {p : Pl.Bytes}
theorem drop_at (hp : P[k]? = some p) : P.drop k = p :: P.drop (k + 1) := by
  obtain ⟨hk, e⟩ := List.getElem?_eq_some_iff.1 hp
  rw [List.drop_eq_getElem_cons hk, e]

theorem parsed_one (h : Parsed P k many done) (hp : P[k]? = some p) (e : p = Pl.star1) (hm : many < 0) : Parsed P (k + 1) many (done ++ [(1, ⟨#[]⟩)]) := by
  refine ⟨by simp [h.1], ?_⟩
  rw [h.2, drop_at hp, Pl.scan, if_pos e, if_neg (by omega)]
  cases Pl.scan Pl.okLit (k + 1) many (P.drop (k + 1)) <;> simp [toSegs, toSeg]
theorem parsed_one_no (h : Parsed P k many done) (hp : P[k]? = some p) (e : p = Pl.star1) (hm : 0 ≤ many) : Pl.scan Pl.okLit 0 (-1) P = none := by
  rw [h.2, drop_at hp, Pl.scan, if_pos e, if_pos hm]
  rfl
theorem parsed_many (h : Parsed P k many done) (hp : P[k]? = some p) (e : p = Pl.star2) (hm : many < 0) : Parsed P (k + 1) k (done ++ [(2, ⟨#[]⟩)]) := by
  refine ⟨by simp [h.1], ?_⟩
  rw [h.2, drop_at hp, Pl.scan, if_neg (by rw [e]; decide), if_pos e, if_neg (by omega)]
  cases Pl.scan Pl.okLit (k + 1) k (P.drop (k + 1)) <;> simp [toSegs, toSeg]
theorem parsed_many_no (h : Parsed P k many done) (hp : P[k]? = some p) (e : p = Pl.star2) (hm : 0 ≤ many) : Pl.scan Pl.okLit 0 (-1) P = none := by
  rw [h.2, drop_at hp, Pl.scan, if_neg (by rw [e]; decide), if_pos e, if_pos hm]
  rfl
theorem parsed_last (h : Parsed P k many done) (hp : P[k]? = some p) (e : p = []) (hl : P.length = k + 1) : Parsed P (k + 1) many (done ++ [(0, ⟨#[]⟩)]) := by
  refine ⟨by simp [h.1], ?_⟩
  have hd : P.drop (k + 1) = [] := List.drop_of_length_le (by omega)
  rw [h.2, drop_at hp, Pl.scan, if_neg (by rw [e]; decide), if_neg (by rw [e]; decide), if_pos e, if_pos hd, hd]
  simp [Pl.scan, toSegs, toSeg]
theorem parsed_empty_no (h : Parsed P k many done) (hp : P[k]? = some p) (e : p = []) (hl : k + 1 < P.length) : Pl.scan Pl.okLit 0 (-1) P = none := by
  have hd : P.drop (k + 1) ≠ [] := fun e => by have := congrArg List.length e; simp at this; omega
  rw [h.2, drop_at hp, Pl.scan, if_neg (by rw [e]; decide), if_neg (by rw [e]; decide), if_pos e, if_neg hd]
  rfl
theorem parsed_lit {b : ByteArray} (h : Parsed P k many done) (hp : P[k]? = some p) (hb : b.data.toList = p) (e1 : p ≠ Pl.star1) (e2 : p ≠ Pl.star2) (e3 : p ≠ []) (ho : Pl.okLit p = true) : Parsed P (k + 1) many (done ++ [(0, b)]) := by
  refine ⟨by simp [h.1], ?_⟩
  rw [h.2, drop_at hp, Pl.scan, if_neg e1, if_neg e2, if_neg e3, if_pos ho]
  cases Pl.scan Pl.okLit (k + 1) many (P.drop (k + 1)) <;> simp [toSegs, toSeg, hb]
theorem parsed_lit_no (h : Parsed P k many done) (hp : P[k]? = some p) (e1 : p ≠ Pl.star1) (e2 : p ≠ Pl.star2) (e3 : p ≠ []) (ho : ¬ Pl.okLit p = true) : Pl.scan Pl.okLit 0 (-1) P = none := by
  rw [h.2, drop_at hp, Pl.scan, if_neg e1, if_neg e2, if_neg e3, if_neg ho]
  rfl
end

/-- the segments' row while it is filled -/
def segCells (done : List (Int × ByteArray)) (n : Nat) : List Value := flat done ++ flat (List.replicate (n - done.length) (0, ⟨#[]⟩))
theorem flat_append (a b : List (Int × ByteArray)) : flat (a ++ b) = flat a ++ flat b := by simp [flat]
theorem flat_length (a : List (Int × ByteArray)) : (flat a).length = a.length * 2 := by
  induction a with
  | nil => rfl
  | cons x xs ih =>
    have e : flat (x :: xs) = .int .i64 x.1 :: .string x.2 :: flat xs := by simp [flat]
    rw [e]; simp [ih]; omega
theorem segCells_eq (done : List (Int × ByteArray)) (n : Nat) : segCells done n = flat (done ++ List.replicate (n - done.length) (0, ⟨#[]⟩)) := by rw [segCells, flat_append]
theorem seg_kind (done : List (Int × ByteArray)) (n : Nat) (h : done.length < n) : (segCells done n)[done.length * 2]? = some (.int .i64 0) ∧ (segCells done n)[done.length * 2 + 1]? = some (.string ⟨#[]⟩) := by
  rw [segCells_eq]
  exact flat_at _ done.length (0, ⟨#[]⟩) (by rw [List.getElem?_append_right (Nat.le_refl _), Nat.sub_self, List.getElem?_replicate, if_pos (by omega)])
theorem seg_step (done : List (Int × ByteArray)) (n : Nat) (h : done.length < n) : segCells done n = flat done ++ .int .i64 0 :: .string ⟨#[]⟩ :: flat (List.replicate (n - (done.length + 1)) (0, ⟨#[]⟩)) := by
  unfold segCells
  rw [show n - done.length = (n - (done.length + 1)) + 1 by omega, List.replicate_succ]
  simp [flat]
theorem seg_next (done : List (Int × ByteArray)) (n : Nat) (g : Int × ByteArray) : segCells (done ++ [g]) n = flat done ++ .int .i64 g.1 :: .string g.2 :: flat (List.replicate (n - (done.length + 1)) (0, ⟨#[]⟩)) := by
  unfold segCells
  rw [flat_append]
  simp [flat]
theorem seg_setKind (done : List (Int × ByteArray)) (n : Nat) (q : Int) (h : done.length < n) : (segCells done n).set (done.length * 2) (.int .i64 q) = segCells (done ++ [(q, ⟨#[]⟩)]) n := by
  rw [seg_step done n h, seg_next done n _, List.set_append_right _ _ (by rw [flat_length]; omega), flat_length, Nat.sub_self]
  rfl
theorem seg_setText (done : List (Int × ByteArray)) (n : Nat) (b : ByteArray) (h : done.length < n) : (segCells done n).set (done.length * 2 + 1) (.string b) = segCells (done ++ [(0, b)]) n := by
  rw [seg_step done n h, seg_next done n _, List.set_append_right _ _ (by rw [flat_length]; omega), flat_length, Nat.add_sub_cancel_left]
  rfl
theorem seg_none (done : List (Int × ByteArray)) (n : Nat) (h : done.length < n) : segCells done n = segCells (done ++ [(0, ⟨#[]⟩)]) n := by
  rw [seg_step done n h, seg_next done n _]
theorem seg_all (done : List (Int × ByteArray)) : segCells done done.length = flat done := by simp [segCells, flat]

end Go.Proofs.Qxb6616416aFmt
