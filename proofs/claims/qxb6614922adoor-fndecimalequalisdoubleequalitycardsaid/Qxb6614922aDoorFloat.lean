/-
  Comparisons of doubles by their bits.
-/
import Derived.Test.Qxb6614922aDoorPlain5
import GoSem.Core.Float
namespace Go.Proofs.Qxb6614922aDoor
namespace Pd
open Go Ieee

theorem read_pos {x : Nat} (h : x < 9218868437227405312) : FloatKind.f64.format.read x = .number false (mantB x) (-1074 + (((exB x - 1 : Nat) : Nat) : Int)) := by
  show Ieee.double.read x = _
  unfold Format.read
  have hw : Ieee.double.signWeight = 9223372036854775808 := by decide
  have hb : Ieee.double.binade = 4503599627370496 := by decide
  have hi : Ieee.double.infRung = 9218868437227405312 := by decide
  have hl : Ieee.double.leastPlace = -1074 := by decide
  simp only [hw, hb, hi, hl]
  rw [show x / 9223372036854775808 % 2 = 0 by omega, show x % 9223372036854775808 = x by omega]
  by_cases h0 : x < 4503599627370496
  · rw [if_pos h0]
    unfold mantB exB EX FR
    rw [if_pos (by omega), if_pos (by omega), show x % 4503599627370496 = x by omega]
    rfl
  · rw [if_neg h0, if_pos h]
    unfold mantB exB EX FR
    rw [if_neg (by omega), if_neg (by omega)]
    simp
    omega

theorem order_pos {x y : Nat} (hx : x < 9218868437227405312) (hy : y < 9218868437227405312) : (FloatKind.f64.format.order x y == some .eq) = decide (x = y) := by
  show ((FloatKind.f64.format.read x).order (FloatKind.f64.format.read y) == some .eq) = _
  rw [read_pos hx, read_pos hy]
  unfold Datum.order
  simp only
  unfold signed
  simp only [Bool.false_eq_true, if_false, Nat.shiftLeft_eq]
  have e1 := ex_pos x
  have e2 := ex_pos y
  generalize hA : (-1074 + ((exB x - 1 : Nat) : Int) - min (-1074 + ((exB x - 1 : Nat) : Int)) (-1074 + ((exB y - 1 : Nat) : Int))).toNat = A
  generalize hB : (-1074 + ((exB y - 1 : Nat) : Int) - min (-1074 + ((exB x - 1 : Nat) : Int)) (-1074 + ((exB y - 1 : Nat) : Int))).toNat = B
  obtain ⟨k, ka, kb⟩ : ∃ k, exB x - 1 = A + k ∧ exB y - 1 = B + k := ⟨min (exB x - 1) (exB y - 1), by omega, by omega⟩
  have hv : mantB x * 2 ^ A = mantB y * 2 ^ B ↔ x = y := by
    constructor
    · intro e
      have hval : valB x = valB y := by
        unfold valB
        rw [ka, kb, Nat.pow_add, Nat.pow_add, ← Nat.mul_assoc, ← Nat.mul_assoc, e]
      rcases Nat.lt_trichotomy x y with h | h | h
      · have := val_strict h; omega
      · exact h
      · have := val_strict h; omega
    · intro e
      subst e
      rw [show A = B by omega]
  by_cases hxy : x = y
  · rw [hv.2 hxy, decide_eq_true hxy]
    simp [compare, compareOfLessAndEq]
  · have hne : ¬ mantB x * 2 ^ A = mantB y * 2 ^ B := fun e => hxy (hv.1 e)
    rw [decide_eq_false hxy]
    generalize mantB x * 2 ^ A = a at *
    generalize mantB y * 2 ^ B = b at *
    simp only [beq_eq_false_iff_ne, ne_eq, Option.some.injEq]
    intro e
    have : ((a : Nat) : Int) = (b : Int) := by
      simp only [compare, compareOfLessAndEq] at e
      split at e
      · cases e
      · split at e
        · assumption
        · cases e
    omega

theorem cmp_gt (a b : Int) (h : compare a b = .gt) : b < a := by
  simp only [compare, compareOfLessAndEq] at h
  split at h
  · cases h
  · split at h
    · cases h
    · omega
theorem pos_of {x : Nat} (hx : x < 18446744073709551616) (h0 : (FloatKind.f64.format.order x 0 == some .gt) = true) (h1 : (FloatKind.f64.format.order x 9218868437227405311 == some .lt || FloatKind.f64.format.order x 9218868437227405311 == some .eq) = true) : 1 ≤ x ∧ x < 9218868437227405312 := by
  have hw : Ieee.double.signWeight = 9223372036854775808 := by decide
  have hb : Ieee.double.binade = 4503599627370496 := by decide
  have hi : Ieee.double.infRung = 9218868437227405312 := by decide
  have hl : Ieee.double.leastPlace = -1074 := by decide
  have ho : ∀ y, FloatKind.f64.format.order x y = (Ieee.double.read x).order (Ieee.double.read y) := fun _ => rfl
  have r0 : Ieee.double.read 0 = .number false 0 (-1074) := by decide
  have rM : Ieee.double.read 9218868437227405311 = .number false (mantB 9218868437227405311) (-1074 + (((exB 9218868437227405311 - 1 : Nat) : Nat) : Int)) := read_pos (by decide)
  rw [ho, r0] at h0
  rw [ho, rM] at h1
  have hr : Ieee.double.read x = (if x % 9223372036854775808 < 4503599627370496 then .number (x / 9223372036854775808 % 2 == 1) (x % 9223372036854775808) (-1074)
      else if x % 9223372036854775808 < 9218868437227405312 then .number (x / 9223372036854775808 % 2 == 1) (4503599627370496 + x % 9223372036854775808 % 4503599627370496) (-1074 + (x % 9223372036854775808 / 4503599627370496 - 1 : Nat))
      else if x % 9223372036854775808 = 9218868437227405312 then .infinity (x / 9223372036854775808 % 2 == 1) else .nan (x / 9223372036854775808 % 2 == 1) (x % 9223372036854775808 - 9218868437227405312)) := by
    unfold Format.read
    simp only [hw, hb, hi, hl]
  rw [hr] at h0 h1
  have num : ∀ (s : Bool) (m : Nat) (i : Int), ((Datum.number s m i).order (.number false 0 (-1074)) == some .gt) = true → s = false ∧ m ≠ 0 := by
    intro s m i h
    unfold Datum.order at h
    simp only [beq_iff_eq, Option.some.injEq] at h
    have h := cmp_gt _ _ h
    have hz : signed false 0 (-1074 - min i (-1074)).toNat = 0 := by simp [signed]
    rw [hz] at h
    unfold signed at h
    cases s with
    | false =>
      refine ⟨rfl, fun e => ?_⟩
      subst e
      simp at h
    | true =>
      exfalso
      simp only [if_true] at h
      generalize m <<< (i - min i (-1074)).toNat = k at h
      omega
  by_cases c1 : x % 9223372036854775808 < 4503599627370496
  · rw [if_pos c1] at h0
    obtain ⟨k1, k2⟩ := num _ _ _ h0
    simp at k1
    omega
  · rw [if_neg c1] at h0 h1
    by_cases c2 : x % 9223372036854775808 < 9218868437227405312
    · rw [if_pos c2] at h0
      obtain ⟨k1, k2⟩ := num _ _ _ h0
      simp at k1
      omega
    · rw [if_neg c2] at h0 h1
      by_cases c3 : x % 9223372036854775808 = 9218868437227405312
      · rw [if_pos c3] at h0 h1
        exfalso
        generalize (x / 9223372036854775808 % 2 == 1) = s at *
        cases s <;> simp [Datum.order] at h0 h1
      · rw [if_neg c3] at h0
        simp [Datum.order] at h0
end Pd
end Go.Proofs.Qxb6614922aDoor
