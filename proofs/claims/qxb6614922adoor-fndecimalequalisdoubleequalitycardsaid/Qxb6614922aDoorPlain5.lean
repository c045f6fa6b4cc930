/-
  Doubles by their bits: what shortFloat picks tells them apart.
-/
import Derived.Test.Qxb6614922aDoorPlain4
namespace Go.Proofs.Qxb6614922aDoor
namespace Pd
open Go
set_option exponentiation.threshold 5000

def EX (b : Nat) : Nat := b / 4503599627370496
def FR (b : Nat) : Nat := b % 4503599627370496
def mantB (b : Nat) : Nat := if EX b = 0 then FR b else FR b + 4503599627370496
def exB (b : Nat) : Nat := if EX b = 0 then 1 else EX b
def valB (b : Nat) : Nat := mantB b * 2 ^ (exB b - 1)
def skewB (b : Nat) : Bool := mantB b == 4503599627370496 && Nat.blt 1 (exB b)
def zB (b : Nat) : Nat := 63 - (mantB b).log2
def pB (b : Nat) : Int := if skewB b then pS (exB b) else pN (exB b)
def dB (b : Nat) : Nat × Bool := if skewB b then pickS (exB b) else pickN (exB b) (mantB b) (zB b)

theorem ex_pos (b : Nat) : 1 ≤ exB b := by unfold exB; split <;> omega
theorem ex_le {b : Nat} (h : b < 9218868437227405312) : exB b ≤ 2046 := by unfold exB EX; split <;> omega
theorem mant_pos {b : Nat} (h : 1 ≤ b) : 1 ≤ mantB b := by unfold mantB EX FR; split <;> omega
theorem mant_lt (b : Nat) : mantB b < 9007199254740992 := by unfold mantB FR; split <;> omega
theorem mant_odd (b : Nat) : mantB b % 2 = b % 2 := by unfold mantB FR; split <;> omega

theorem val_succ (b : Nat) : valB (b + 1) = valB b + 2 ^ (exB b - 1) := by
  unfold valB mantB exB
  by_cases hf : FR b = 4503599627370495
  · have e1 : EX (b + 1) = EX b + 1 := by unfold EX; unfold FR at hf; omega
    have e2 : FR (b + 1) = 0 := by unfold FR at hf ⊢; omega
    rw [e1, e2, if_neg (by omega), if_neg (by omega), hf]
    by_cases h0 : EX b = 0
    · rw [if_pos h0, if_pos h0, h0]
    · rw [if_neg h0, if_neg h0]
      obtain ⟨k, hk⟩ : ∃ k, EX b = k + 1 := ⟨EX b - 1, by omega⟩
      rw [hk]
      simp only [Nat.add_sub_cancel]
      rw [Nat.pow_succ]
      omega
  · have hlt : FR b < 4503599627370496 := Nat.mod_lt _ (by decide)
    have e1 : EX (b + 1) = EX b := by unfold EX; unfold FR at hf hlt; omega
    have e2 : FR (b + 1) = FR b + 1 := by unfold FR at hf hlt ⊢; omega
    rw [e1, e2]
    by_cases h0 : EX b = 0
    · rw [if_pos h0, if_pos h0, if_pos h0]
      generalize 2 ^ (1 - 1) = T
      rw [Nat.add_mul, Nat.one_mul]
    · rw [if_neg h0, if_neg h0, if_neg h0]
      generalize 2 ^ (EX b - 1) = T
      rw [show FR b + 1 + 4503599627370496 = (FR b + 4503599627370496) + 1 by omega, Nat.add_mul _ 1, Nat.one_mul]

theorem val_lt (b : Nat) : valB b < valB (b + 1) := by
  rw [val_succ]
  have : 0 < 2 ^ (exB b - 1) := Nat.pow_pos (by decide)
  omega
theorem val_mono {a b : Nat} (h : a ≤ b) : valB a ≤ valB b := by
  induction b with
  | zero => have : a = 0 := by omega
            subst this; exact Nat.le_refl _
  | succ b ih =>
    by_cases e : a = b + 1
    · subst e; exact Nat.le_refl _
    · have := ih (by omega); have := val_lt b; omega
theorem val_strict {a b : Nat} (h : a < b) : valB a < valB b := Nat.lt_of_lt_of_le (val_lt a) (val_mono h)

theorem ex_pred {b : Nat} (h : 1 ≤ b) (hs : skewB b = false) : exB (b - 1) = exB b := by
  simp only [skewB, Bool.and_eq_false_iff, beq_eq_false_iff_ne, mantB, exB, EX, FR] at hs
  have hb : Nat.blt 1 (if b / 4503599627370496 = 0 then 1 else b / 4503599627370496) = false → ¬ 1 < (if b / 4503599627370496 = 0 then 1 else b / 4503599627370496) := by
    intro h1 h2
    rw [← Nat.blt_eq, h1] at h2
    cases h2
  have hs := hs.imp id hb
  unfold exB EX
  by_cases h0 : b / 4503599627370496 = 0 <;> by_cases h1 : (b - 1) / 4503599627370496 = 0 <;> simp only [h0, h1, if_true, if_false] at hs ⊢ <;> omega
theorem skew_facts {b : Nat} (hs : skewB b = true) : 2 ≤ exB b ∧ mantB b = 4503599627370496 ∧ exB (b - 1) = exB b - 1 := by
  simp only [skewB, Bool.and_eq_true, beq_iff_eq, Nat.blt_eq] at hs
  obtain ⟨h1, h2⟩ := hs
  refine ⟨by omega, h1, ?_⟩
  unfold mantB at h1
  unfold exB at h2 ⊢
  unfold EX FR at *
  by_cases g0 : b / 4503599627370496 = 0 <;> by_cases g1 : (b - 1) / 4503599627370496 = 0 <;> simp only [g0, g1, if_true, if_false] at h1 h2 ⊢ <;> omega

theorem z_facts {b : Nat} (h : 1 ≤ b) : 2 ^ 63 ≤ mantB b * 2 ^ zB b ∧ mantB b * 2 ^ zB b + 2 ^ (zB b - 1) < 2 ^ 64 ∧ 11 ≤ zB b ∧ zB b ≤ 63 := by
  have hm := mant_pos h
  have hl := mant_lt b
  have h1 := Nat.log2_self_le (n := mantB b) (by omega)
  have h2 := Nat.lt_log2_self (n := mantB b)
  unfold zB
  generalize mantB b = m at *
  have h3 : m.log2 < 53 := by
    apply (Nat.pow_lt_pow_iff_right (a := 2) (by decide)).1
    exact Nat.lt_of_le_of_lt h1 hl
  generalize m.log2 = L at *
  obtain ⟨k, hk⟩ : ∃ k, 63 - L = k + 1 := ⟨62 - L, by omega⟩
  rw [hk]
  have e1 : 2 ^ L * 2 ^ (k + 1) = 2 ^ 63 := by rw [← Nat.pow_add]; congr 1; omega
  have e2 : 2 ^ (L + 1) * 2 ^ (k + 1) = 2 ^ 64 := by rw [← Nat.pow_add]; congr 1; omega
  have hp : 0 < 2 ^ k := Nat.pow_pos (by decide)
  have e3 : 2 ^ (k + 1) = 2 * 2 ^ k := by rw [Nat.pow_succ]; omega
  refine ⟨?_, ?_, by omega, by omega⟩
  · rw [← e1]; exact Nat.mul_le_mul_right _ h1
  · have : (m + 1) * 2 ^ (k + 1) ≤ 2 ^ (L + 1) * 2 ^ (k + 1) := Nat.mul_le_mul_right _ h2
    rw [Nat.add_mul, Nat.one_mul, e2] at this
    simp only [Nat.add_sub_cancel]
    omega

theorem between {b : Nat} (h1 : 1 ≤ b) (h2 : b < 9218868437227405312) :
    (valB (b - 1) + valB b) * 10 ^ 400 ≤ scaled (dB b) (pB b) * 2 ^ 1075 ∧ scaled (dB b) (pB b) * 2 ^ 1075 ≤ (valB b + valB (b + 1)) * 10 ^ 400 ∧
    (b % 2 = 1 → (valB (b - 1) + valB b) * 10 ^ 400 < scaled (dB b) (pB b) * 2 ^ 1075 ∧ scaled (dB b) (pB b) * 2 ^ 1075 < (valB b + valB (b + 1)) * 10 ^ 400) := by
  have hs := val_succ b
  have hp := val_succ (b - 1)
  rw [Nat.sub_add_cancel h1] at hp
  have hx1 := ex_pos b
  have hx2 := ex_le h2
  have hhi : valB b + valB (b + 1) = (2 * mantB b + 1) * 2 ^ (exB b - 1) := by
    rw [hs]; unfold valB; rw [Nat.add_mul, Nat.one_mul, Nat.mul_assoc]; omega
  unfold dB pB
  cases hk : skewB b with
  | false =>
    simp only [Bool.false_eq_true, if_false]
    rw [ex_pred h1 hk] at hp
    have hm1 := mant_pos h1
    have hlo : valB (b - 1) + valB b = (2 * mantB b - 1) * 2 ^ (exB b - 1) := by
      have e : valB b = mantB b * 2 ^ (exB b - 1) := rfl
      have : (2 * mantB b - 1) * 2 ^ (exB b - 1) = 2 * (mantB b * 2 ^ (exB b - 1)) - 2 ^ (exB b - 1) := by rw [Nat.sub_mul, Nat.one_mul, Nat.mul_assoc]
      omega
    obtain ⟨z1, z2, z3, _⟩ := z_facts h1
    have B := between_N hx1 hx2 hm1 (mant_lt b) z1 z2 z3
    rw [← hlo, ← hhi, mant_odd] at B
    exact B
  | true =>
    simp only [if_true]
    obtain ⟨k1, k2, k3⟩ := skew_facts hk
    rw [k3] at hp
    have hc := skewed_ok (exB b) k1 hx2
    simp only [checkS, Bool.and_eq_true, decide_eq_true_eq, Nat.ble_eq] at hc
    obtain ⟨⟨_, c1⟩, c2⟩ := hc
    have hlo : valB (b - 1) + valB b = 18014398509481983 * 2 ^ (exB b - 2) := by
      have e : valB b = mantB b * 2 ^ (exB b - 1) := rfl
      obtain ⟨j, hj⟩ : ∃ j, exB b = j + 2 := ⟨exB b - 2, by omega⟩
      rw [hj] at e hp ⊢
      simp only [Nat.add_sub_cancel, show j + 2 - 1 = j + 1 by omega, show j + 1 - 1 = j by omega] at e hp ⊢
      rw [k2, Nat.pow_succ] at e
      omega
    rw [hlo, hhi, k2]
    refine ⟨c1, c2, fun h => ?_⟩
    have := mant_odd b
    rw [k2] at this
    omega

theorem tells_lt {a b : Nat} (ha : 1 ≤ a) (hb : b < 9218868437227405312) (h : a < b) (e : scaled (dB a) (pB a) = scaled (dB b) (pB b)) : False := by
  obtain ⟨_, a2, a3⟩ := between ha (by omega)
  obtain ⟨b1, _, b3⟩ := between (b := b) (by omega) hb
  rw [e] at a2 a3
  have m1 : valB a ≤ valB (b - 1) := val_mono (by omega)
  have m2 : valB (a + 1) ≤ valB b := val_mono (by omega)
  obtain ⟨H, hHe⟩ : ∃ H, 10 ^ 400 = H := ⟨_, rfl⟩
  have hH : 0 < H := by rw [← hHe]; exact Nat.pow_pos (by decide)
  rw [hHe] at a2 a3 b1 b3
  clear hHe
  obtain ⟨S, hS⟩ : ∃ S, scaled (dB b) (pB b) * 2 ^ 1075 = S := ⟨_, rfl⟩
  rw [hS] at a2 a3 b1 b3
  clear hS e
  have le : valB (b - 1) + valB b ≤ valB a + valB (a + 1) := Nat.le_of_mul_le_mul_right (Nat.le_trans b1 a2) hH
  have hab : a = b - 1 := by
    rcases Nat.lt_or_ge a (b - 1) with hh | hh
    · have := val_strict hh; omega
    · omega
  have es : valB (b - 1) + valB b = valB a + valB (a + 1) := by omega
  rw [es] at b1 b3
  rcases (show a % 2 = 1 ∨ b % 2 = 1 by omega) with hh | hh
  · have := (a3 hh).2; omega
  · have := (b3 hh).1; omega

/-- WHAT SHORTFLOAT PICKS TELLS DOUBLES APART. -/
theorem tells {a b : Nat} (ha : 1 ≤ a) (ha2 : a < 9218868437227405312) (hb : 1 ≤ b) (hb2 : b < 9218868437227405312) (e : scaled (dB a) (pB a) = scaled (dB b) (pB b)) : a = b := by
  rcases Nat.lt_trichotomy a b with h | h | h
  · exact (tells_lt ha hb2 h e).elim
  · exact h
  · exact (tells_lt hb ha2 h e.symm).elim

end Pd
end Go.Proofs.Qxb6614922aDoor
