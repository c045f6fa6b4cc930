/-
  THE PLAIN LAW: the parse of a text that two texts make, out of theirs.
-/
import Derived.Test.Qxb6616416aFmtPlain2
namespace Go.Proofs.Qxb6616416aFmt.Pl

theorem scan_neg (ok : Bytes → Bool) (ps : List Bytes) : ∀ (i : Nat) (r : List Seg × Int), scan ok i (-1) ps = some r → r.2 = -1 ∨ 0 ≤ r.2 := by
  induction ps with
  | nil => intro i r h; simp [scan] at h; subst h; exact .inl rfl
  | cons p ps ih =>
    intro i r h
    simp only [scan] at h
    split at h
    · rw [if_neg (by omega)] at h
      obtain ⟨t, ht, rfl⟩ := Option.map_eq_some_iff.1 h
      have := ih _ _ ht
      exact this
    · split at h
      · rw [if_neg (by omega)] at h
        obtain ⟨t, ht, rfl⟩ := Option.map_eq_some_iff.1 h
        rw [scan_many ok ps (i + 1) 0 i (by omega) (-1)] at ht
        cases hs : scan ok 0 (-1) ps with
        | none => rw [hs] at ht; cases ht
        | some u =>
          rw [hs] at ht
          simp only [Option.bind_some] at ht
          split at ht
          · cases ht
          · simp at ht; subst ht; right; show (0 : Int) ≤ i; omega
      · split at h
        · split at h
          · simp at h; subst h; exact .inl rfl
          · cases h
        · split at h
          · obtain ⟨t, ht, rfl⟩ := Option.map_eq_some_iff.1 h
            have := ih _ _ ht
            exact this
          · cases h

def prs (ok : Bytes → Bool) (s : Bytes) : Option (List Seg × Int) := scan ok 0 (-1) (split (s.drop 1))

section
variable {ok : Bytes → Bool} {A B : Bytes}

theorem prs_join (hA : 2 ≤ A.length) (hl : A.getLast? ≠ some 47) (hB : B.head? = some 47) :
    prs ok (A ++ B) = (prs ok A).bind fun r => (scan ok (split (A.drop 1)).length r.2 (split (B.drop 1))).map fun t => (r.1 ++ t.1, t.2) := by
  obtain ⟨b, rfl⟩ : ∃ b, B = 47 :: b := by
    cases B with
    | nil => simp at hB
    | cons c b => simp at hB; subst hB; exact ⟨b, rfl⟩
  have hne : A.drop 1 ≠ [] := fun e => by have := congrArg List.length e; simp at this; omega
  have hlast : (A.drop 1).getLast hne ≠ 47 := by
    intro e
    apply hl
    have hA0 : A ≠ [] := fun e => by subst e; simp at hA
    rw [List.getLast?_eq_some_getLast hA0, ← e, List.getLast_drop]
  have hsp : split ((A ++ 47 :: b).drop 1) = split (A.drop 1) ++ split b := by
    rw [List.drop_append_of_le_length (by omega), split_append]
  unfold prs
  rw [hsp, scan_append ok _ _ (split_ne _) (split_last _ hne hlast)]
  simp

theorem prs_len (hA : 1 ≤ A.length) (h47 : A.head? = some 47) {r : List Seg × Int} (h : prs ok A = some r) : r.1.length = A.count 47 ∧ r.1.length = (split (A.drop 1)).length := by
  have h1 := scan_length ok _ _ _ _ h
  refine ⟨?_, h1⟩
  rw [h1, split_length]
  cases A with
  | nil => simp at hA
  | cons c a => simp at h47; subst h47; simp

theorem join_no_a (hA : 2 ≤ A.length) (hl : A.getLast? ≠ some 47) (hB : B.head? = some 47) (h : prs ok A = none) : prs ok (A ++ B) = none := by
  rw [prs_join hA hl hB, h]; rfl
theorem join_no_b (hA : 2 ≤ A.length) (hl : A.getLast? ≠ some 47) (hB : B.head? = some 47) (h : prs ok B = none) : prs ok (A ++ B) = none := by
  rw [prs_join hA hl hB]
  cases hp : prs ok A with
  | none => rfl
  | some r =>
    have hn : scan ok (split (A.drop 1)).length r.2 (split (B.drop 1)) = none := by
      rcases scan_neg ok _ _ _ hp with hr | hr
      · rw [hr]
        have := scan_shift ok (split (B.drop 1)) 0 (split (A.drop 1)).length
        rw [Nat.zero_add] at this
        rw [this]
        unfold prs at h
        rw [h]; rfl
      · rw [scan_many ok (split (B.drop 1)) _ 0 r.2 hr (-1)]
        unfold prs at h
        rw [h]; rfl
    rw [Option.bind_some, hn]
    rfl
theorem join_clash (hA : 2 ≤ A.length) (hl : A.getLast? ≠ some 47) (hB : B.head? = some 47) {ra rb : List Seg × Int} (ha : prs ok A = some ra) (hb : prs ok B = some rb) (hm : 0 ≤ ra.2) (ho : hasOp rb.1 = true) : prs ok (A ++ B) = none := by
  rw [prs_join hA hl hB, ha]
  unfold prs at hb
  rw [Option.bind_some, scan_many ok (split (B.drop 1)) (split (A.drop 1)).length 0 ra.2 hm (-1), hb]
  simp [ho]
theorem join_many (hA : 2 ≤ A.length) (hl : A.getLast? ≠ some 47) (hB : B.head? = some 47) {ra rb : List Seg × Int} (ha : prs ok A = some ra) (hb : prs ok B = some rb) (hm : 0 ≤ ra.2) (ho : hasOp rb.1 = false) :
    prs ok (A ++ B) = some (ra.1 ++ rb.1, ra.2) := by
  rw [prs_join hA hl hB, ha]
  unfold prs at hb
  rw [Option.bind_some, scan_many ok (split (B.drop 1)) (split (A.drop 1)).length 0 ra.2 hm (-1), hb]
  simp [ho]
theorem join_none (hA : 2 ≤ A.length) (hl : A.getLast? ≠ some 47) (hB : B.head? = some 47) {ra rb : List Seg × Int} (ha : prs ok A = some ra) (hb : prs ok B = some rb) (hm : ra.2 < 0) :
    prs ok (A ++ B) = some (ra.1 ++ rb.1, if 0 ≤ rb.2 then rb.2 + ((split (A.drop 1)).length : Int) else -1) := by
  rw [prs_join hA hl hB, ha]
  have hr : ra.2 = -1 := by
    rcases scan_neg ok _ _ _ ha with h | h
    · exact h
    · omega
  have := scan_shift ok (split (B.drop 1)) 0 (split (A.drop 1)).length
  rw [Nat.zero_add] at this
  unfold prs at hb
  rw [Option.bind_some, hr, this, hb]
  rfl
end

end Go.Proofs.Qxb6616416aFmt.Pl
