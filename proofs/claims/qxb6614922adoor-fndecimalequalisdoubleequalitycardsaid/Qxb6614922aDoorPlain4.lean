/-
  The shortest digits of a double lie between its two midpoints; so they tell doubles apart.
-/
import Derived.Test.Qxb6614922aDoorPlain3
namespace Go.Proofs.Qxb6614922aDoor
namespace Pd
open Go
set_option exponentiation.threshold 5000

theorem CC_pos : 0 < CC := by
  unfold CC
  exact Nat.mul_pos (Nat.pow_pos (by decide)) (Nat.pow_pos (by decide))
theorem NN_pos (p : Int) : 0 < NN p := by
  unfold NN
  exact Nat.mul_pos (Nat.pow_pos (by decide)) (Nat.pow_pos (by decide))

theorem ceil_bounds {N C : Nat} (hC : 0 < C) (hN : 0 < N) : N ≤ (N + C - 1) / C * C ∧ (N + C - 1) / C * C < N + C ∧ 0 < (N + C - 1) / C := by
  have h := Nat.div_add_mod (N + C - 1) C
  have hr := Nat.mod_lt (N + C - 1) hC
  rw [Nat.mul_comm] at h
  refine ⟨by omega, by omega, Nat.div_pos (by omega) hC⟩
theorem pmv_bounds (p : Int) : NN p ≤ pmv p * CC ∧ pmv p * CC < NN p + CC ∧ 0 < pmv p := ceil_bounds CC_pos (NN_pos p)
theorem hilo (p : Int) : hiT p * 2 ^ 64 - loT p = pmv p ∧ loT p < 2 ^ 64 ∧ 1 ≤ hiT p := by
  have h := (pmv_bounds p).2.2
  have a : hiT p = (pmv p + 18446744073709551615) / 18446744073709551616 := rfl
  have b : loT p = hiT p * 18446744073709551616 - pmv p := rfl
  generalize pmv p = x at *
  generalize hiT p = hi at *
  generalize loT p = lo at *
  omega

/-- uscale, at the constants of p -/
def usp (x : Nat) (p : Int) (s : Nat) : Nat := us x (hiT p) (loT p) s

theorem usp_exact {ex z k x' : Nat} {q1 q2 : Nat} (hc : checkN ex q1 q2 = true) (hz : z = k + 1) (hz11 : 11 ≤ z) (hx1 : 1 ≤ x') (hx2 : x' ≤ 18014398509481985) (hx : x' * 2 ^ k < 2 ^ 64) :
    usp (x' * 2 ^ k) (pN ex) (sI ex z (pN ex)).toNat = un (x' * GG ex (pN ex)) CC := by
  simp only [checkN, rng, Bool.and_eq_true, decide_eq_true_eq] at hc
  obtain ⟨⟨⟨⟨⟨hp1, hp2⟩, hs1⟩, hs2⟩, hok⟩, _⟩ := hc
  obtain ⟨b1, b2, _⟩ := pmv_bounds (pN ex)
  obtain ⟨c1, c2, c3⟩ := hilo (pN ex)
  have hsz : sI ex z (pN ex) = sI ex 11 (pN ex) + ((z : Int) - 11) := by unfold sI; omega
  refine us_exact hx (Nat.mul_pos hx1 (Nat.pow_pos (by decide))) c2 c3 CC_pos (by rw [c1]; exact b1) (by rw [c1]; exact b2) ?_ ?_
  · have e : k + (2127 - l2 (pN ex)).toNat = (926 + ex) + (64 + (64 + (sI ex z (pN ex)).toNat)) := by
      have : sI ex z (pN ex) = 1072 + (z : Int) - (ex : Int) - l2 (pN ex) := rfl
      omega
    have e2 : 2 ^ k * 2 ^ (2127 - l2 (pN ex)).toNat = 2 ^ (926 + ex) * (2 ^ 64 * 2 ^ (64 + (sI ex z (pN ex)).toNat)) := by
      rw [← Nat.pow_add, e, Nat.pow_add, Nat.pow_add 2 64]
    unfold NN GG
    generalize 10 ^ (400 + pN ex).toNat = T at *
    generalize 2 ^ k = K at *
    generalize 2 ^ (2127 - l2 (pN ex)).toNat = L at *
    generalize 2 ^ (926 + ex) = E at *
    generalize 2 ^ 64 * 2 ^ (64 + (sI ex z (pN ex)).toNat) = R at *
    calc x' * K * (T * L) = x' * T * (K * L) := by grind
      _ = x' * (T * E) * R := by rw [e2]; grind
  · intro n l r
    exact okc_near hok CC_pos (Nat.pow_le_pow_right (by decide) (by omega)) hx1 hx2 l r

/-- what shortFloat takes in the plain case -/
def pickN (ex mant z : Nat) : Nat × Bool :=
  pick (usp (mant * 2 ^ z - 2 ^ (z - 1)) (pN ex) (sI ex z (pN ex)).toNat) (usp (mant * 2 ^ z) (pN ex) (sI ex z (pN ex)).toNat) (usp (mant * 2 ^ z + 2 ^ (z - 1)) (pN ex) (sI ex z (pN ex)).toNat) (mant % 2)
/-- and at a power of two, where the gap below is the half of the gap above -/
def pickS (ex : Nat) : Nat × Bool :=
  pick (usp (9223372036854775808 - 512) (pS ex) (sI ex 11 (pS ex)).toNat) (usp 9223372036854775808 (pS ex) (sI ex 11 (pS ex)).toNat) (usp (9223372036854775808 + 1024) (pS ex) (sI ex 11 (pS ex)).toNat) 0

/-- scaled up by 10 ^ 400 -/
def scaled (d : Nat × Bool) (p : Int) : Nat := pickV d * 10 ^ (400 - p).toNat

theorem rescale {ex V a : Nat} {p : Int} (h1 : -348 ≤ p) (h2 : p ≤ 347) (hex : 1 ≤ ex) :
    (a * GG ex p ≤ CC * (4 * V) ↔ a * 2 ^ (ex - 1) * 10 ^ 400 ≤ V * 10 ^ (400 - p).toNat * 2 ^ 1075) ∧ (CC * (4 * V) ≤ a * GG ex p ↔ V * 10 ^ (400 - p).toNat * 2 ^ 1075 ≤ a * 2 ^ (ex - 1) * 10 ^ 400) := by
  have e1 : 10 ^ (400 + p).toNat * 10 ^ (400 - p).toNat = 10 ^ 400 * 10 ^ 400 := by
    rw [← Nat.pow_add, ← Nat.pow_add]; congr 1; omega
  have e2 : 2 ^ (926 + ex) = 2 ^ 927 * 2 ^ (ex - 1) := by rw [← Nat.pow_add]; congr 1; omega
  have e3 : 2 ^ 2000 * 4 = 2 ^ 927 * 2 ^ 1075 := by rw [← Nat.pow_add, show (4 : Nat) = 2 ^ 2 by decide, ← Nat.pow_add]
  have hT : 0 < 10 ^ (400 - p).toNat := Nat.pow_pos (by decide)
  have hH : 0 < 10 ^ 400 := Nat.pow_pos (by decide)
  have hK : 0 < 2 ^ 927 := Nat.pow_pos (by decide)
  unfold GG CC
  rw [e2]
  generalize 10 ^ (400 + p).toNat = S at *
  generalize 10 ^ (400 - p).toNat = T at *
  generalize 10 ^ 400 = H at *
  generalize 2 ^ 2000 = X at *
  generalize 2 ^ 1075 = Y at *
  generalize 2 ^ 927 = K at *
  generalize 2 ^ (ex - 1) = Z at *
  have l : a * (S * (K * Z)) * T = (a * Z * H) * (H * K) := by
    calc a * (S * (K * Z)) * T = a * Z * K * (S * T) := by grind
      _ = (a * Z * H) * (H * K) := by rw [e1]; grind
  have r : H * X * (4 * V) * T = (V * T * Y) * (H * K) := by
    calc H * X * (4 * V) * T = H * V * T * (X * 4) := by grind
      _ = (V * T * Y) * (H * K) := by rw [e3]; grind
  have hHK : 0 < H * K := Nat.mul_pos hH hK
  constructor
  · rw [← Nat.mul_le_mul_right_iff hT, l, r, Nat.mul_le_mul_right_iff hHK]
  · rw [← Nat.mul_le_mul_right_iff hT, l, r, Nat.mul_le_mul_right_iff hHK]

theorem between_N {ex mant z : Nat} (h1 : 1 ≤ ex) (h2 : ex ≤ 2046) (hm1 : 1 ≤ mant) (hm2 : mant < 9007199254740992) (hz1 : 2 ^ 63 ≤ mant * 2 ^ z) (hz2 : mant * 2 ^ z + 2 ^ (z - 1) < 2 ^ 64) (hz : 11 ≤ z) :
    (2 * mant - 1) * 2 ^ (ex - 1) * 10 ^ 400 ≤ scaled (pickN ex mant z) (pN ex) * 2 ^ 1075 ∧ scaled (pickN ex mant z) (pN ex) * 2 ^ 1075 ≤ (2 * mant + 1) * 2 ^ (ex - 1) * 10 ^ 400 ∧
    (mant % 2 = 1 → (2 * mant - 1) * 2 ^ (ex - 1) * 10 ^ 400 < scaled (pickN ex mant z) (pN ex) * 2 ^ 1075 ∧ scaled (pickN ex mant z) (pN ex) * 2 ^ 1075 < (2 * mant + 1) * 2 ^ (ex - 1) * 10 ^ 400) := by
  obtain ⟨q1, q2, hc⟩ := checked ex h1 h2
  obtain ⟨k, rfl⟩ : ∃ k, z = k + 1 := ⟨z - 1, by omega⟩
  simp only [Nat.add_sub_cancel] at hz2
  have x2 : mant * 2 ^ (k + 1) = 2 * mant * 2 ^ k := by rw [Nat.pow_succ]; grind
  have x1 : mant * 2 ^ (k + 1) - 2 ^ k = (2 * mant - 1) * 2 ^ k := by rw [x2, Nat.sub_mul, Nat.one_mul]
  have x3 : mant * 2 ^ (k + 1) + 2 ^ k = (2 * mant + 1) * 2 ^ k := by rw [x2, Nat.add_mul, Nat.one_mul]
  have e3 : (2 * mant + 1) * 2 ^ k < 2 ^ 64 := by rw [← x3]; exact hz2
  have e2 : 2 * mant * 2 ^ k < 2 ^ 64 := Nat.lt_of_le_of_lt (Nat.mul_le_mul_right _ (by omega)) e3
  have e1 : (2 * mant - 1) * 2 ^ k < 2 ^ 64 := Nat.lt_of_le_of_lt (Nat.mul_le_mul_right _ (by omega)) e3
  have u1 := usp_exact hc (k := k) rfl hz (x' := 2 * mant - 1) (by omega) (by omega) e1
  have u2 := usp_exact hc (k := k) rfl hz (x' := 2 * mant) (by omega) (by omega) e2
  have u3 := usp_exact hc (k := k) rfl hz (x' := 2 * mant + 1) (by omega) (by omega) e3
  have hpk : pickN ex mant (k + 1) = pick (un ((2 * mant - 1) * GG ex (pN ex)) CC) (un (2 * mant * GG ex (pN ex)) CC) (un ((2 * mant + 1) * GG ex (pN ex)) CC) (mant % 2) := by
    unfold pickN
    rw [Nat.add_sub_cancel, x1, x3, x2, u1, u2, u3]
  simp only [checkN, rng, Bool.and_eq_true, Bool.or_eq_true, decide_eq_true_eq, beq_iff_eq] at hc
  obtain ⟨⟨⟨⟨⟨hp1, hp2⟩, hs1⟩, hs2⟩, hok⟩, hG⟩ := hc
  have hG' : 2 * CC < GG ex (pN ex) ∨ (ex = 1075 ∧ GG ex (pN ex) = 2 * CC) := hG.imp (fun h => by rw [Nat.blt_eq] at h; exact h) id
  have y2 : 2 * mant * GG ex (pN ex) = (2 * mant - 1) * GG ex (pN ex) + GG ex (pN ex) := by
    rw [show 2 * mant = (2 * mant - 1) + 1 by omega, Nat.add_mul, Nat.one_mul]; simp
  have y3 : (2 * mant + 1) * GG ex (pN ex) = (2 * mant - 1) * GG ex (pN ex) + 2 * GG ex (pN ex) := by
    rw [Nat.add_mul, y2]; omega
  have B := pick_between (y1 := (2 * mant - 1) * GG ex (pN ex)) (g := GG ex (pN ex)) (odd := mant % 2) CC_pos (by omega) (by omega)
    (fun _ => hG'.imp id fun h => ⟨h.2, mant - 1, by rw [h.2, show (2 * mant - 1) * (2 * CC) = CC * (2 * (2 * mant - 1)) by grind]; congr 1; omega⟩)
  rw [← y2, ← y3, ← hpk] at B
  obtain ⟨B1, B2, B3⟩ := B
  obtain ⟨r1, r1'⟩ := rescale (V := pickV (pickN ex mant (k + 1))) (a := 2 * mant - 1) hp1 hp2 h1
  obtain ⟨r2', r2⟩ := rescale (V := pickV (pickN ex mant (k + 1))) (a := 2 * mant + 1) hp1 hp2 h1
  refine ⟨r1.1 B1, r2.1 B2, fun h => ?_⟩
  obtain ⟨b1, b2⟩ := B3 h
  exact ⟨Nat.lt_of_not_le fun h => Nat.not_le_of_lt b1 (r1'.2 h), Nat.lt_of_not_le fun h => Nat.not_le_of_lt b2 (r2'.2 h)⟩

/-! ### the powers of two, one by one -/
def checkS (ex : Nat) : Bool :=
  decide (-348 ≤ pS ex) && decide (pS ex ≤ 347) && decide (0 ≤ sI ex 11 (pS ex)) && decide (sI ex 11 (pS ex) ≤ 63) &&
    Nat.ble (18014398509481983 * 2 ^ (ex - 2) * 10 ^ 400) (scaled (pickS ex) (pS ex) * 2 ^ 1075) && Nat.ble (scaled (pickS ex) (pS ex) * 2 ^ 1075) (9007199254740993 * 2 ^ (ex - 1) * 10 ^ 400)
def checkSAll : Nat → Nat → Bool
  | 0, _ => true
  | n + 1, ex => checkS ex && checkSAll n (ex + 1)
theorem checkSAll_at : ∀ (n e0 : Nat), checkSAll n e0 = true → ∀ ex, e0 ≤ ex → ex < e0 + n → checkS ex = true
  | 0, e0, _, ex, h1, h2 => by omega
  | n + 1, e0, h, ex, h1, h2 => by
    simp only [checkSAll, Bool.and_eq_true] at h
    by_cases he : ex = e0
    · subst he; exact h.1
    · exact checkSAll_at n (e0 + 1) h.2 ex (by omega) (by omega)
set_option maxRecDepth 1000000 in
theorem skewAll : checkSAll 2045 2 = true := by kernel_rfl
theorem skewed_ok (ex : Nat) (h1 : 2 ≤ ex) (h2 : ex ≤ 2046) : checkS ex = true := checkSAll_at 2045 2 skewAll ex h1 (by omega)

end Pd
end Go.Proofs.Qxb6614922aDoor
