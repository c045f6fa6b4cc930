/-
  THE PLAIN FUNCTIONS that ParsePattern's road computes, and the plain law. No Go in sight.
-/
namespace Go.Proofs.Qxb6616416aFmt.Pl

abbrev Bytes := List UInt8

/-! ### hex digits, unreserved, allowed (over Int, as the walk spells a byte) -/
def isHex (c : Int) : Bool := decide (48 ≤ c ∧ c ≤ 57) || decide (97 ≤ c ∧ c ≤ 102) || decide (65 ≤ c ∧ c ≤ 70)
def hexVal (c : Int) : Int := if 48 ≤ c ∧ c ≤ 57 then c - 48 else if 97 ≤ c ∧ c ≤ 102 then c - 87 else if 65 ≤ c ∧ c ≤ 70 then c - 55 else 0
def unres (c : Int) : Bool :=
  decide (97 ≤ c ∧ c ≤ 122) || decide (65 ≤ c ∧ c ≤ 90) || decide (48 ≤ c ∧ c ≤ 57) || decide (c = 45) || decide (c = 46) || decide (c = 95) || decide (c = 126)

/-- splitting at the slash -/
def split : Bytes → List Bytes
  | [] => [[]]
  | c :: r => if c = 47 then [] :: split r else
    match split r with
    | [] => [[c]]
    | p :: ps => (c :: p) :: ps

theorem split_ne (s : Bytes) : split s ≠ [] := by
  cases s with
  | nil => simp [split]
  | cons c r => unfold split; split <;> (try split) <;> simp

theorem split_append (x y : Bytes) : split (x ++ 47 :: y) = split x ++ split y := by
  induction x with
  | nil => simp [split]
  | cons c r ih =>
    by_cases h : c = 47
    · simp [split, h, ih]
    · simp only [List.cons_append, split, if_neg h, ih]
      cases hs : split r with
      | nil => exact absurd hs (split_ne r)
      | cons p ps => simp

theorem split_length (x : Bytes) : (split x).length = x.count 47 + 1 := by
  induction x with
  | nil => simp [split]
  | cons c r ih =>
    by_cases h : c = 47
    · simp [split, h, ih]
    · have hc : (c :: r).count 47 = r.count 47 := by rw [List.count_cons]; simp [h]
      rw [hc]
      simp only [split, if_neg h]
      cases hs : split r with
      | nil => exact absurd hs (split_ne r)
      | cons p ps => rw [hs] at ih; simpa using ih

/-- the last piece of a text that does not end in a slash is not empty -/
theorem split_last (x : Bytes) (hx : x ≠ []) (hl : x.getLast hx ≠ 47) : (split x).getLast (split_ne x) ≠ [] := by
  induction x with
  | nil => exact absurd rfl hx
  | cons c r ih =>
    cases r with
    | nil =>
      have hc : c ≠ 47 := by simpa using hl
      simp [split, hc]
    | cons d t =>
      have ih' := ih (by simp) (by simpa using hl)
      by_cases h : c = 47
      · have e : split (c :: d :: t) = [] :: split (d :: t) := by rw [split, if_pos h]
        simp only [e]
        rw [List.getLast_cons (split_ne _)]
        exact ih'
      · cases hs : split (d :: t) with
        | nil => exact absurd hs (split_ne _)
        | cons p ps =>
          have e : split (c :: d :: t) = (c :: p) :: ps := by rw [split, if_neg h, hs]
          simp only [e]
          simp only [hs] at ih'
          cases ps with
          | nil => simp
          | cons q qs =>
            rw [List.getLast_cons (by simp)]
            rw [List.getLast_cons (by simp)] at ih'
            exact ih'

/-! ### the parse of the pieces, over any test 'ok' of a literal -/
abbrev Seg := Int × Bytes

def star1 : Bytes := [123, 42, 125]
def star2 : Bytes := [123, 42, 42, 125]

def scan (ok : Bytes → Bool) : Nat → Int → List Bytes → Option (List Seg × Int)
  | _, m, [] => some ([], m)
  | i, m, p :: ps =>
    if p = star1 then if 0 ≤ m then none else (scan ok (i + 1) m ps).map fun r => ((1, []) :: r.1, r.2)
    else if p = star2 then if 0 ≤ m then none else (scan ok (i + 1) i ps).map fun r => ((2, []) :: r.1, r.2)
    else if p = [] then if ps = [] then some ([(0, [])], m) else none
    else if ok p then (scan ok (i + 1) m ps).map fun r => ((0, p) :: r.1, r.2) else none

def hasOp (l : List Seg) : Bool := l.any fun g => decide (g.1 = 1) || decide (g.1 = 2)

theorem scan_append (ok : Bytes → Bool) (xs ys : List Bytes) (hx : xs ≠ []) (hl : xs.getLast hx ≠ []) :
    ∀ (i : Nat) (m : Int), scan ok i m (xs ++ ys) = (scan ok i m xs).bind fun r => (scan ok (i + xs.length) r.2 ys).map fun t => (r.1 ++ t.1, t.2) := by
  induction xs with
  | nil => exact absurd rfl hx
  | cons p ps ih =>
    intro i m
    have key : ∀ m', scan ok (i + 1) m' (ps ++ ys) = (scan ok (i + 1) m' ps).bind fun r => (scan ok (i + (ps.length + 1)) r.2 ys).map fun t => (r.1 ++ t.1, t.2) := by
      intro m'
      cases ps with
      | nil => simp only [List.nil_append, scan, Option.bind_some, List.length_nil]; cases scan ok (i + 1) m' ys <;> simp
      | cons q qs =>
        have := ih (by simp) (by rw [List.getLast_cons (by simp)] at hl; exact hl) (i + 1) m'
        rw [this]
        have e : i + 1 + (q :: qs).length = i + ((q :: qs).length + 1) := by omega
        rw [e]
    simp only [List.cons_append, scan, List.length_cons]
    by_cases h1 : p = star1
    · rw [if_pos h1, if_pos h1]
      by_cases hm : 0 ≤ m
      · simp [hm]
      · rw [if_neg hm, if_neg hm, key]
        cases scan ok (i + 1) m ps with
        | none => simp
        | some r => simp; cases scan ok (i + (ps.length + 1)) r.2 ys <;> simp
    · rw [if_neg h1, if_neg h1]
      by_cases h2 : p = star2
      · rw [if_pos h2, if_pos h2]
        by_cases hm : 0 ≤ m
        · simp [hm]
        · rw [if_neg hm, if_neg hm, key]
          cases scan ok (i + 1) i ps with
          | none => simp
          | some r => simp; cases scan ok (i + (ps.length + 1)) r.2 ys <;> simp
      · rw [if_neg h2, if_neg h2]
        by_cases h3 : p = []
        · have hps : ps ≠ [] := by
            intro e
            subst e
            simp [h3] at hl
          rw [if_pos h3, if_pos h3, if_neg hps, if_neg (by simp [hps])]
          rfl
        · rw [if_neg h3, if_neg h3]
          by_cases h4 : ok p = true
          · rw [if_pos h4, if_pos h4, key]
            cases scan ok (i + 1) m ps with
            | none => simp
            | some r => simp; cases scan ok (i + (ps.length + 1)) r.2 ys <;> simp
          · rw [if_neg h4, if_neg h4]
            rfl

theorem scan_length (ok : Bytes → Bool) (ps : List Bytes) : ∀ (i : Nat) (m : Int) r, scan ok i m ps = some r → r.1.length = ps.length := by
  induction ps with
  | nil => intro i m r h; simp [scan] at h; subst h; rfl
  | cons p ps ih =>
    intro i m r h
    simp only [scan] at h
    split at h
    · split at h
      · cases h
      · obtain ⟨t, ht, rfl⟩ := Option.map_eq_some_iff.1 h; simp [ih _ _ _ ht]
    · split at h
      · split at h
        · cases h
        · obtain ⟨t, ht, rfl⟩ := Option.map_eq_some_iff.1 h; simp [ih _ _ _ ht]
      · split at h
        · split at h
          · rename_i hps; simp at h; subst h; simp [hps]
          · cases h
        · split at h
          · obtain ⟨t, ht, rfl⟩ := Option.map_eq_some_iff.1 h; simp [ih _ _ _ ht]
          · cases h

/-- behind a '{**}' at place m: the same pieces are taken just where they were and no operator is among them; 'many' stays -/
theorem scan_many (ok : Bytes → Bool) (ps : List Bytes) : ∀ (i j : Nat) (m : Int) (_ : 0 ≤ m) (m' : Int),
    scan ok i m ps = (scan ok j m' ps).bind fun r => if hasOp r.1 then none else some (r.1, m) := by
  induction ps with
  | nil => intro i j m hm m'; simp [scan, hasOp]
  | cons p ps ih =>
    intro i j m hm m'
    simp only [scan]
    by_cases h1 : p = star1
    · rw [if_pos h1, if_pos h1, if_pos hm]
      split
      · rfl
      · cases scan ok (j + 1) m' ps with
        | none => rfl
        | some r => simp [hasOp]
    · rw [if_neg h1, if_neg h1]
      by_cases h2 : p = star2
      · rw [if_pos h2, if_pos h2, if_pos hm]
        split
        · rfl
        · cases scan ok (j + 1) j ps with
          | none => rfl
          | some r => simp [hasOp]
      · rw [if_neg h2, if_neg h2]
        by_cases h3 : p = []
        · rw [if_pos h3, if_pos h3]
          split <;> simp [hasOp]
        · rw [if_neg h3, if_neg h3]
          split
          · rw [ih (i + 1) (j + 1) m hm m']
            cases scan ok (j + 1) m' ps with
            | none => rfl
            | some r =>
              by_cases ho : hasOp r.1 = true
              · have : hasOp ((0, p) :: r.1) = true := by unfold hasOp at ho ⊢; simp only [List.any_cons, ho, Bool.or_true]
                simp [ho, this]
              · have : hasOp ((0, p) :: r.1) = false := by
                  have h0 : hasOp r.1 = false := by simpa using ho
                  unfold hasOp at h0 ⊢; simp only [List.any_cons, h0]; simp
                simp [ho, this]
          · rfl

/-- where no '{**}' has come yet the places are moved along -/
theorem scan_shift (ok : Bytes → Bool) (ps : List Bytes) : ∀ (i j : Nat),
    scan ok (i + j) (-1) ps = (scan ok i (-1) ps).map fun r => (r.1, if 0 ≤ r.2 then r.2 + (j : Int) else (-1 : Int)) := by
  induction ps with
  | nil => intro i j; simp [scan]
  | cons p ps ih =>
    intro i j
    have e : i + j + 1 = (i + 1) + j := by omega
    simp only [scan]
    by_cases h1 : p = star1
    · rw [if_pos h1, if_pos h1, if_neg (by omega), if_neg (by omega), e, ih]
      cases scan ok (i + 1) (-1) ps <;> simp
    · rw [if_neg h1, if_neg h1]
      by_cases h2 : p = star2
      · rw [if_pos h2, if_pos h2, if_neg (by omega), if_neg (by omega)]
        rw [scan_many ok ps (i + j + 1) (i + 1) ((i + j : Nat) : Int) (by omega) (i : Int)]
        rw [scan_many ok ps (i + 1) (i + 1) ((i : Nat) : Int) (by omega) (i : Int)]
        cases scan ok (i + 1) (i : Int) ps with
        | none => rfl
        | some r => by_cases ho : hasOp r.1 = true <;> simp [ho]
      · rw [if_neg h2, if_neg h2]
        by_cases h3 : p = []
        · rw [if_pos h3, if_pos h3]
          split <;> simp
        · rw [if_neg h3, if_neg h3]
          split
          · rw [e, ih]
            cases scan ok (i + 1) (-1) ps <;> simp
          · rfl

end Go.Proofs.Qxb6616416aFmt.Pl
