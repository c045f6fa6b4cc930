/-
  THE PLAIN SIDE: strings.EqualFold, and why a string equals its ASCII letters' swap. No model in this text.
-/
import Derived.Test.Qxb6616414aDoorPlain
import Derived.Lib.ValidLaws
namespace Go.Proofs.Qxb6616414aDoor.Pl
open Go.Lib

/-- 'for r != a && r < b { r = SimpleFold(r) }' -/
def lf : Nat → Int → Int → Int → Int
  | 0, _, _, r => r
  | n + 1, a, b, r => if r ≠ a ∧ r < b then lf n a b (sf r) else r
/-- upper against lower -/
def upLow (a b : Int) : Bool := decide (65 ≤ a ∧ a ≤ 90 ∧ b = a + 32)
/-- two runes, the smaller first -/
def runeLt (a b : Int) : Bool := if b < 128 then upLow a b else decide (lf 3 a b (sf a) = b)
def runeM (s t : Int) : Bool := if t = s then true else if t < s then runeLt t s else runeLt s t
def byteM (s t : Int) : Bool := if t = s then true else if t < s then upLow t s else upLow s t

def feU : Nat → List UInt8 → List UInt8 → Bool
  | 0, _, t => t.isEmpty
  | n + 1, s, t => if s = [] then t.isEmpty else if t = [] then false else if runeM ((decodeL s).1 : Int) ((decodeL t).1 : Int) then feU n (s.drop (decodeL s).2) (t.drop (decodeL t).2) else false

/-- strings.EqualFold -/
def fe : List UInt8 → List UInt8 → Bool
  | a :: s, b :: t => if a.toNat < 128 ∧ b.toNat < 128 then (if byteM a.toNat b.toNat then fe s t else false) else feU (s.length + 1) (a :: s) (b :: t)
  | [], [] => true
  | _, _ => false

/-! ### the swap -/
def flipN (c : Nat) : Nat := if 65 ≤ c ∧ c ≤ 90 then c + 32 else if 97 ≤ c ∧ c ≤ 122 then c - 32 else c
def flipB (c : UInt8) : UInt8 := (flipN c.toNat).toUInt8
def flip (l : List UInt8) : List UInt8 := l.map flipB

theorem flipB_toNat (c : UInt8) : (flipB c).toNat = flipN c.toNat := by
  have h := c.toNat_lt
  have : flipN c.toNat < 256 := by unfold flipN; split <;> (try split) <;> omega
  show (flipN c.toNat).toUInt8.toNat = _
  simp
  omega
theorem flipN_cases (c : Nat) : flipN c = c ∨ (c < 128 ∧ flipN c < 128) := by unfold flipN; split <;> (try split) <;> omega
theorem flipN_low {c : Nat} (h : c < 128) : flipN c < 128 := by unfold flipN; split <;> (try split) <;> omega
theorem flipN_high {c : Nat} (h : 128 ≤ c) : flipN c = c := by unfold flipN; split <;> (try split) <;> omega

theorem flipN_three (c : Nat) : (65 ≤ c ∧ c ≤ 90 ∧ flipN c = c + 32) ∨ (97 ≤ c ∧ c ≤ 122 ∧ flipN c + 32 = c) ∨ flipN c = c := by unfold flipN; split <;> (try split) <;> omega

theorem byteM_flip (c : Nat) : byteM c (flipN c) = true := by
  have h := flipN_three c
  generalize flipN c = d at h
  unfold byteM upLow
  rcases h with ⟨h1, h2, rfl⟩ | ⟨h1, h2, h3⟩ | rfl
  · rw [if_neg (by omega), if_neg (by omega)]
    simp
    omega
  · rw [if_neg (by omega), if_pos (by omega)]
    simp
    omega
  · simp
theorem runeM_flip {c : Nat} (hc : c < 128) : runeM c (flipN c) = true := by
  have h := flipN_three c
  generalize flipN c = d at h
  unfold runeM runeLt upLow
  rcases h with ⟨h1, h2, rfl⟩ | ⟨h1, h2, h3⟩ | rfl
  · rw [if_neg (by omega), if_neg (by omega), if_pos (by omega)]
    simp
    omega
  · rw [if_neg (by omega), if_pos (by omega), if_pos (by omega)]
    simp
    omega
  · simp
theorem runeM_same (c : Int) : runeM c c = true := by simp [runeM]

set_option maxHeartbeats 4000000 in
set_option maxRecDepth 100000 in
theorem decodeN_flip (n b0 b1 b2 b3 : Nat) : decodeN n b0 (flipN b1) (flipN b2) (flipN b3) = decodeN n b0 b1 b2 b3 := by
  have q1 := flipN_cases b1
  have q2 := flipN_cases b2
  have q3 := flipN_cases b3
  generalize flipN b1 = c1 at *
  generalize flipN b2 = c2 at *
  generalize flipN b3 = c3 at *
  rcases q1 with rfl | ⟨x1, y1⟩
  · rcases q2 with rfl | ⟨x2, y2⟩
    · rcases q3 with rfl | ⟨x3, y3⟩
      · rfl
      · have e1 : ¬ b3 / 64 = 2 := by omega
        have e2 : ¬ c3 / 64 = 2 := by omega
        simp only [decodeN, e1, e2, and_false, if_false]
    · have e1 : ¬ b2 / 64 = 2 := by omega
      have e2 : ¬ c2 / 64 = 2 := by omega
      simp only [decodeN, e1, e2, and_false, false_and, if_false]
  · have e1 : ¬ b1 / 64 = 2 := by omega
    have e2 : ¬ c1 / 64 = 2 := by omega
    simp only [decodeN, e1, e2, and_false, false_and, if_false]

theorem getD_flip (l : List UInt8) (j : Nat) : ((flip l).getD j 0).toNat = flipN (l.getD j 0).toNat := by
  simp only [flip, List.getD, List.getElem?_map]
  cases h : l[j]? with
  | none => simp [flipN]
  | some c => simp [flipB_toNat]

theorem decode_flip (l : List UInt8) (hne : l ≠ []) : (decodeL (flip l)).2 = (decodeL l).2 ∧ runeM ((decodeL l).1 : Int) ((decodeL (flip l)).1 : Int) = true := by
  cases l with
  | nil => exact absurd rfl hne
  | cons b t =>
    by_cases h : b.toNat < 128
    · have h2 : (flipB b).toNat < 128 := by rw [flipB_toNat]; exact flipN_low h
      have e : flip (b :: t) = flipB b :: flip t := rfl
      rw [e, decodeL_ascii b t h, decodeL_ascii _ _ h2]
      refine ⟨rfl, ?_⟩
      show runeM (b.toNat : Int) ((flipB b).toNat : Int) = true
      rw [flipB_toNat]
      exact runeM_flip h
    · have e : decodeL (flip (b :: t)) = decodeL (b :: t) := by
        rw [decodeL_N, decodeL_N (b :: t), getD_flip, getD_flip, getD_flip, getD_flip]
        have h0 : flipN ((b :: t).getD 0 0).toNat = ((b :: t).getD 0 0).toNat := flipN_high (by simpa using h)
        have hl : (flip (b :: t)).length = (b :: t).length := by simp [flip]
        rw [h0, hl]
        exact decodeN_flip _ _ _ _ _
      rw [e]
      exact ⟨rfl, runeM_same _⟩

theorem feU_flip : ∀ (n : Nat) (s : List UInt8), s.length ≤ n → feU n s (flip s) = true
  | 0, s, h => by
    have : s = [] := List.eq_nil_of_length_eq_zero (by omega)
    subst this
    rfl
  | n + 1, s, h => by
    by_cases hs : s = []
    · subst hs; rfl
    · have hf : flip s ≠ [] := by simpa [flip] using hs
      obtain ⟨d1, d2⟩ := decode_flip s hs
      have hw := decodeL_width s
      have hl : 0 < s.length := List.length_pos_iff.2 hs
      rw [feU, if_neg hs, if_neg hf, if_pos d2, d1]
      have e : (flip s).drop (decodeL s).2 = flip (s.drop (decodeL s).2) := by simp [flip, List.map_drop]
      rw [e]
      exact feU_flip n _ (by simp; omega)

/-- A STRING EQUALS ITS SWAP, LETTER CASE ASIDE -/
theorem fe_flip : ∀ s : List UInt8, fe s (flip s) = true
  | [] => rfl
  | a :: s => by
    have e : flip (a :: s) = flipB a :: flip s := rfl
    rw [e, fe]
    split
    · rw [flipB_toNat, if_pos (byteM_flip _)]
      exact fe_flip s
    · rw [← e]
      exact feU_flip _ _ (by simp)

/-- sbi.InOtherCase -/
def ioc (name : List UInt8) (names : List (List UInt8)) : Bool := !names.contains name && names.any (fe name)

theorem ioc_append (n : List UInt8) (a b : List (List UInt8)) : ioc n (a ++ b) = (!a.contains n && (!b.contains n && (ioc n a || ioc n b))) := by
  unfold ioc
  rw [List.contains_append, List.any_append]
  cases a.contains n <;> cases b.contains n <;> simp
theorem ioc_flip (n : List UInt8) : ioc n [flip n] = !(flip n == n) := by
  unfold ioc
  simp [fe_flip]
  by_cases h : flip n = n
  · simp [h]
  · simp [h, Ne.symm h]

end Go.Proofs.Qxb6616414aDoor.Pl
