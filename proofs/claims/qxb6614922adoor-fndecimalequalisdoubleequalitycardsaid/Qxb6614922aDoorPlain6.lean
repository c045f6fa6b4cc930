/-
  Bounds of what shortFloat meets; Go's table of powers of ten.
-/
import Derived.Test.Qxb6614922aDoorPlain5
import GoSem.PinnedTables
namespace Go.Proofs.Qxb6614922aDoor
namespace Pd
open Go
set_option exponentiation.threshold 5000

set_option maxRecDepth 1000000 in
theorem tabHL : (List.range 696).map (fun i : Nat => (hiT ((i : Int) - 348), loT ((i : Int) - 348))) = Go.Pinned.pow10Rows := by kernel_rfl
set_option maxRecDepth 1000000 in
theorem hiAll : ((List.range 696).all fun i => Nat.blt (hiT ((i : Int) - 348)) 18446744073709551616 && Nat.ble 9223372036854775808 (hiT ((i : Int) - 348))) = true := by kernel_rfl
theorem hi_bounds {p : Int} (h1 : -348 ≤ p) (h2 : p ≤ 347) : hiT p < 18446744073709551616 ∧ 9223372036854775808 ≤ hiT p := by
  have := List.all_eq_true.1 hiAll (p + 348).toNat (List.mem_range.2 (by omega))
  rw [show (((p + 348).toNat : Nat) : Int) - 348 = p by omega, Bool.and_eq_true, Nat.blt_eq, Nat.ble_eq] at this
  exact this

def rngAll (ex : Nat) : Bool :=
  decide (-348 ≤ pN ex) && decide (pN ex ≤ 347) && decide (2 ≤ sI ex 11 (pN ex)) && decide (sI ex 11 (pN ex) ≤ 8) && decide (-348 ≤ pS ex) && decide (pS ex ≤ 347) && decide (2 ≤ sI ex 11 (pS ex)) && decide (sI ex 11 (pS ex) ≤ 8)
set_option maxRecDepth 1000000 in
theorem rngOk : ((List.range 2046).all fun i => rngAll (i + 1)) = true := by kernel_rfl
theorem rng_at {ex : Nat} (h1 : 1 ≤ ex) (h2 : ex ≤ 2046) : (-348 ≤ pN ex ∧ pN ex ≤ 347 ∧ 2 ≤ sI ex 11 (pN ex) ∧ sI ex 11 (pN ex) ≤ 8) ∧ (-348 ≤ pS ex ∧ pS ex ≤ 347 ∧ 2 ≤ sI ex 11 (pS ex) ∧ sI ex 11 (pS ex) ≤ 8) := by
  have := List.all_eq_true.1 rngOk (ex - 1) (List.mem_range.2 (by omega))
  rw [Nat.sub_add_cancel h1] at this
  simp only [rngAll, Bool.and_eq_true, decide_eq_true_eq] at this
  omega

theorem K64 : (2 : Nat) ^ 64 = 18446744073709551616 := by decide
theorem us_le {x a b s : Nat} (hx : x < 18446744073709551616) (ha : a < 18446744073709551616) (hs : 2 ≤ s) : us x a b s ≤ 4611686018427387904 := by
  have hH : x * a / 18446744073709551616 < 18446744073709551616 := by
    have : x * a < 18446744073709551616 * 18446744073709551616 := Nat.mul_lt_mul'' hx ha
    omega
  have hS : 4 ≤ 2 ^ s := Nat.pow_le_pow_right (n := 2) (by decide) hs
  have key : ∀ h st : Nat, h < 18446744073709551616 → st ≤ 1 → h / 2 ^ s ||| st ≤ 4611686018427387904 := by
    intro h st hh hst
    have : h / 2 ^ s ≤ h / 4 := Nat.div_le_div_left hS (by decide)
    rcases (show st = 0 ∨ st = 1 by omega) with rfl | rfl
    · rw [Nat.or_zero]; omega
    · rw [or_one]; omega
  unfold us
  rw [K64]
  split
  · exact key _ _ hH (Nat.le_refl _)
  · exact key _ _ (by omega) (by split <;> omega)

theorem us_ge0 {x a b s t : Nat} (ha : 9223372036854775808 ≤ a) (hx : (t + 1) * 2 ≤ x) : t / 2 ^ s ≤ us x a b s := by
  have hH : t + 1 ≤ x * a / 18446744073709551616 := by
    have : (t + 1) * 2 * 9223372036854775808 ≤ x * a := Nat.mul_le_mul hx ha
    omega
  have key : ∀ h st : Nat, t ≤ h → t / 2 ^ s ≤ h / 2 ^ s ||| st := fun h st hh => Nat.le_trans (Nat.div_le_div_right hh) Nat.left_le_or
  unfold us
  rw [K64]
  split
  · exact key _ _ (by omega)
  · exact key _ _ (by split <;> omega)
theorem us_ge {x a b s n t : Nat} (ha : 9223372036854775808 ≤ a) (hs : s ≤ 60) (hx : (t + 1) * 2 ≤ x) (hn : n * 2 ^ 60 ≤ t) : n ≤ us x a b s := by
  refine Nat.le_trans ?_ (us_ge0 (s := s) (b := b) ha hx)
  rw [Nat.le_div_iff_mul_le (Nat.pow_pos (by decide))]
  exact Nat.le_trans (Nat.mul_le_mul_left _ (Nat.pow_le_pow_right (by decide) hs)) hn

/-! ### what shortFloat meets at the bits b -/
def mB (b : Nat) : Nat := mantB b * 2 ^ zB b
def minB (b : Nat) : Nat := if skewB b then mB b - 2 ^ (zB b - 2) else mB b - 2 ^ (zB b - 1)
def maxB (b : Nat) : Nat := mB b + 2 ^ (zB b - 1)
def sB (b : Nat) : Int := sI (exB b) (zB b) (pB b)

theorem z_skew {b : Nat} (h : skewB b = true) : zB b = 11 := by
  have := (skew_facts h).2.1
  unfold zB
  rw [this]
  have : Nat.log2 4503599627370496 = 52 := by
    rw [show 4503599627370496 = 2 ^ 52 by decide, Nat.log2_two_pow]
  omega
theorem dB_eq (b : Nat) : dB b = pick (usp (minB b) (pB b) (sB b).toNat) (usp (mB b) (pB b) (sB b).toNat) (usp (maxB b) (pB b) (sB b).toNat) (mantB b % 2) := by
  unfold dB minB maxB sB pB mB
  cases h : skewB b with
  | false => simp only [Bool.false_eq_true, if_false]; rfl
  | true =>
    simp only [if_true]
    rw [z_skew h, (skew_facts h).2.1]
    rfl

structure Met (b : Nat) : Prop where
  p1 : -348 ≤ pB b
  p2 : pB b ≤ 347
  s1 : 2 ≤ sB b
  s2 : sB b ≤ 60
  z1 : 11 ≤ zB b
  z2 : zB b ≤ 63
  e1 : 1 ≤ exB b
  e2 : exB b ≤ 2046
  m1 : 9223372036854775808 ≤ mB b
  m2 : maxB b < 18446744073709551616
  n1 : 4611686018427387904 ≤ minB b
  n2 : minB b ≤ mB b

theorem met {b : Nat} (h1 : 1 ≤ b) (h2 : b < 9218868437227405312) : Met b := by
  obtain ⟨a1, a2, a3, a4⟩ := z_facts h1
  have e1 := ex_pos b
  have e2 := ex_le h2
  obtain ⟨r1, r2⟩ := rng_at e1 e2
  have hz1 : 2 ^ (zB b - 1) ≤ 2 ^ 62 := Nat.pow_le_pow_right (by decide) (by omega)
  have hz2 : 2 ^ (zB b - 2) ≤ 2 ^ 62 := Nat.pow_le_pow_right (by decide) (by omega)
  have hm : mB b = mantB b * 2 ^ zB b := rfl
  have hM : maxB b = mB b + 2 ^ (zB b - 1) := rfl
  have hexz : skewB b = false → sI (exB b) (zB b) (pN (exB b)) ≤ 60 ∧ 2 ≤ sI (exB b) (zB b) (pN (exB b)) := fun _ => by
    have e : sI (exB b) (zB b) (pN (exB b)) = sI (exB b) 11 (pN (exB b)) + ((zB b : Int) - 11) := by unfold sI; omega
    omega
  have hsk : skewB b = true → sI (exB b) (zB b) (pS (exB b)) ≤ 60 ∧ 2 ≤ sI (exB b) (zB b) (pS (exB b)) := fun h => by
    rw [z_skew h]; omega
  have hmin : 4611686018427387904 ≤ minB b ∧ minB b ≤ mB b := by
    unfold minB
    generalize 2 ^ (zB b - 1) = A at *
    generalize 2 ^ (zB b - 2) = B at *
    split <;> omega
  have hps : (-348 ≤ pB b ∧ pB b ≤ 347) ∧ 2 ≤ sB b ∧ sB b ≤ 60 := by
    unfold sB pB
    cases h : skewB b with
    | false => simp only [Bool.false_eq_true, if_false]; have := hexz h; omega
    | true => simp only [if_true]; have := hsk h; omega
  exact ⟨hps.1.1, hps.1.2, hps.2.1, hps.2.2, a3, a4, e1, e2, by omega, by omega, hmin.1, hmin.2⟩

theorem u_bounds {b : Nat} (M : Met b) (x : Nat) (h1 : 4611686018427387904 ≤ x) (h2 : x ≤ maxB b) : 1 ≤ usp x (pB b) (sB b).toNat ∧ usp x (pB b) (sB b).toNat ≤ 4611686018427387904 ∧ (9223372036854775808 ≤ x → 3 ≤ usp x (pB b) (sB b).toNat) := by
  obtain ⟨g1, g2⟩ := hi_bounds M.p1 M.p2
  have := M.m2
  have := M.s1
  have := M.s2
  exact ⟨us_ge (t := 1152921504606846976) g2 (by omega) (by omega) (by decide), us_le (by omega) g1 (by omega), fun h => us_ge (t := 3458764513820540928) g2 (by omega) (by omega) (by decide)⟩

theorem d_bounds {b : Nat} (h1 : 1 ≤ b) (h2 : b < 9218868437227405312) : 1 ≤ (dB b).1 ∧ (dB b).1 ≤ 4611686018427387904 := by
  have M := met h1 h2
  have m1 := M.m1
  have n2 := M.n2
  have hM : mB b ≤ maxB b := Nat.le_add_right _ _
  obtain ⟨a1, a2, _⟩ := u_bounds M (minB b) M.n1 (by omega)
  obtain ⟨b1, b2, b3⟩ := u_bounds M (mB b) (by omega) hM
  obtain ⟨c1, c2, _⟩ := u_bounds M (maxB b) (by omega) (Nat.le_refl _)
  have b3 := b3 m1
  rw [dB_eq]
  generalize usp (minB b) (pB b) (sB b).toNat = u1 at *
  generalize usp (mB b) (pB b) (sB b).toNat = u2 at *
  generalize usp (maxB b) (pB b) (sB b).toNat = u3 at *
  have ho : mantB b % 2 < 2 := Nat.mod_lt _ (by decide)
  generalize mantB b % 2 = o at *
  unfold pick
  split
  · simp only; omega
  · split
    · simp only; omega
    · simp only; omega

end Pd
end Go.Proofs.Qxb6614922aDoor
