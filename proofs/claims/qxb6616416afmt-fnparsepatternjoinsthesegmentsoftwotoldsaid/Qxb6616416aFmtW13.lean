/-
  THE LAW's WALK, WHOLE: whatever the two texts, the call returns true and leaves the old memory alone.
-/
import Derived.Test.Qxb6616416aFmtW12
namespace Go.Proofs.Qxb6616416aFmt
open Go.RowKit Go.Extern.Stop Go.Stop Go.Extern

theorem scan_top (ok : Pl.Bytes → Bool) (ps : List Pl.Bytes) : ∀ (i : Nat) (m : Int) (r : List Pl.Seg × Int), m < i → Pl.scan ok i m ps = some r → r.2 < ((i + ps.length : Nat) : Int) := by
  induction ps with
  | nil => intro i m r hm h; simp [Pl.scan] at h; subst h; simpa using hm
  | cons p ps ih =>
    intro i m r hm h
    simp only [Pl.scan] at h
    have key : ∀ (m' : Int) (t : List Pl.Seg × Int), m' < ((i + 1 : Nat) : Int) → Pl.scan ok (i + 1) m' ps = some t → t.2 < ((i + (p :: ps).length : Nat) : Int) := by
      intro m' t hm' ht
      have := ih (i + 1) m' t hm' ht
      rw [List.length_cons]
      omega
    split at h
    · split at h
      · cases h
      · obtain ⟨t, ht, rfl⟩ := Option.map_eq_some_iff.1 h
        exact key m t (by omega) ht
    · split at h
      · split at h
        · cases h
        · obtain ⟨t, ht, rfl⟩ := Option.map_eq_some_iff.1 h
          exact key i t (by omega) ht
      · split at h
        · split at h
          · simp at h; subst h; simp only [List.length_cons]; omega
          · cases h
        · split at h
          · obtain ⟨t, ht, rfl⟩ := Option.map_eq_some_iff.1 h
            exact key m t (by omega) ht
          · cases h

theorem head_of {s : ByteArray} (h : 0 < s.size) (h0 : (s[0].toNat : Int) = 47) : s.data.toList.head? = some 47 := by
  have e : s.data.toList = s[0] :: s.data.toList.drop 1 := by
    have := List.drop_eq_getElem_cons (l := s.data.toList) (i := 0) (by simpa using h)
    rw [List.drop_zero] at this
    exact this
  rw [e, show s[0] = 47 from Pl.b2i_inj h0]
  rfl
theorem last_of {s : ByteArray} (h : 0 < s.size) (h0 : ((s[s.size - 1].toNat : Int) == 47) = false) : s.data.toList.getLast? ≠ some 47 := by
  intro e
  have h1 : s.data.toList[s.size - 1]? = some 47 := by
    rw [List.getLast?_eq_getElem?] at e
    simpa using e
  rw [List.getElem?_eq_getElem (by simp; omega)] at h1
  have h2 : s[s.size - 1] = 47 := Option.some.inj h1
  rw [h2] at h0
  cases h0

theorem fn_any (F : Interp) (a b : ByteArray) (w : World) (hE : Env F w) (ha : a.size ≤ maxLen) (hb : b.size ≤ maxLen) :
    Calls Tryf.prog 3 #[.string a, .string b] w fun e w' => e = .returned (.bool true) ∧ Below w.heap.size w w' := by
  by_cases fit : Fit a b
  · have hA2 : 2 ≤ a.data.toList.length := by simpa using fit.a2
    have ha0 : 0 < a.size := by have := fit.a2; omega
    have hb0 : 0 < b.size := by have := fit.b1; omega
    have hB1 : 1 ≤ b.data.toList.length := by simpa using fit.b1
    have hl := last_of ha0 fit.al
    have hhA := head_of ha0 fit.a0
    have hhB := head_of hb0 fit.b0
    have hsa : a.data.toList.length ≤ 65536 := by simpa using fit.sa
    have hsb : b.data.toList.length ≤ 65536 := by simpa using fit.sb
    cases hpa : parsed a.data.toList with
    | none => exact fn_no F a b w hE fit (.inl hpa) (Pl.join_no_a hA2 hl hhB hpa)
    | some ra =>
      cases hpb : parsed b.data.toList with
      | none => exact fn_no F a b w hE fit (.inr hpb) (Pl.join_no_b hA2 hl hhB hpb)
      | some rb =>
        have la := Pl.prs_len (by omega) hhA hpa
        have lb := Pl.prs_len hB1 hhB hpb
        have ca : a.data.toList.count 47 ≤ a.data.toList.length := List.count_le_length
        have cb : b.data.toList.count 47 ≤ b.data.toList.length := List.count_le_length
        have la' : ra.1.length ≤ 65536 := by rw [la.1]; omega
        have lb' : rb.1.length ≤ 65536 := by rw [lb.1]; omega
        by_cases hm : 0 ≤ ra.2
        · cases ho : Pl.hasOp rb.1 with
          | true => exact fn_clash F a b w hE fit ra rb hpa hpb la' lb' hm ho (Pl.join_clash hA2 hl hhB hpa hpb hm ho)
          | false => exact fn_ok_many F a b w hE fit ra rb hpa hpb la' lb' hm ho la.1 lb.1 (Pl.join_many hA2 hl hhB hpa hpb hm ho)
        · have hj := Pl.join_none hA2 hl hhB hpa hpb (by omega)
          by_cases hm2 : 0 ≤ rb.2
          · rw [if_pos hm2, ← la.2] at hj
            have ht := scan_top Pl.okLit _ 0 (-1) rb (by omega) hpb
            rw [Nat.zero_add, ← lb.2] at ht
            exact fn_ok_right F a b w hE fit ra rb hpa hpb la' lb' (by omega) hm2 (by omega) la.1 lb.1 _ rfl (by rw [show (ra.1.length : Int) + rb.2 = rb.2 + (ra.1.length : Int) by omega]; exact hj)
          · rw [if_neg hm2] at hj
            exact fn_ok_none F a b w hE fit ra rb hpa hpb la' lb' (by omega) (by omega) la.1 lb.1 hj
  · exact fn_early a b w ha hb fit

end Go.Proofs.Qxb6616416aFmt
