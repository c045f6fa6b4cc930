/-
  Unrounded scaling, plainly: what the fast product gives, and when it is exact.
-/
namespace Go.Proofs.Qxb6614922aDoor
namespace Pd

/-! ### two neighbours of a ratio: no third one of a small denominator lies near -/
theorem near {G C q1 p1 q2 p2 M N x n : Int} (hx : 1 ≤ x) (hN : x ≤ N) (hq1 : 0 ≤ q1) (hq2 : 0 ≤ q2) (hM : 0 ≤ M) (hd : p2 * q1 = p1 * q2 + 1)
    (h1 : 0 ≤ q1 * G - p1 * C) (h2 : 2 * C ≤ (p2 * C - q2 * G) * M) (h2' : 0 ≤ p2 * C - q2 * G)
    (h3 : q1 * G - p1 * C = 0 ∨ (2 * C ≤ (q1 * G - p1 * C) * M ∧ N < q1 + q2))
    (l : (x * G - n * C) * M < 2 * C) (r : (n * C - x * G) * M < 2 * C) : x * G = n * C := by
  have i1 : x * G - n * C = (p2 * x - n * q2) * (q1 * G - p1 * C) - (n * q1 - p1 * x) * (p2 * C - q2 * G) := by grind
  have i2 : x = (p2 * x - n * q2) * q1 + (n * q1 - p1 * x) * q2 := by grind
  have i1' : n * C - x * G = (n * q1 - p1 * x) * (p2 * C - q2 * G) - (p2 * x - n * q2) * (q1 * G - p1 * C) := by omega
  rw [i1] at l
  rw [i1'] at r
  generalize hdl : q1 * G - p1 * C = dl at *
  generalize hdr : p2 * C - q2 * G = dr at *
  generalize hA : p2 * x - n * q2 = A at *
  generalize hB : n * q1 - p1 * x = B at *
  -- A dl - B dr, times M, lies strictly between -2C and 2C
  have zero_of : A * dl - B * dr = 0 → x * G = n * C := fun e => by omega
  rcases h3 with h0 | ⟨h3, hNN⟩
  · subst h0
    simp only [Int.mul_zero, Int.zero_sub, Int.sub_zero] at l r
    by_cases hb0 : B = 0
    · apply zero_of; simp [hb0]
    · exfalso
      rcases Int.lt_or_gt_of_ne hb0 with hb | hb
      · have : (-B) * dr ≥ 1 * dr := Int.mul_le_mul_of_nonneg_right (by omega) h2'
        have t : (-(B * dr)) * M ≥ dr * M := Int.mul_le_mul_of_nonneg_right (by rw [Int.neg_mul] at this; omega) hM
        omega
      · have : B * dr ≥ 1 * dr := Int.mul_le_mul_of_nonneg_right (by omega) h2'
        have t : (B * dr) * M ≥ dr * M := Int.mul_le_mul_of_nonneg_right (by omega) hM
        omega
  · exfalso
    by_cases ha : 1 ≤ A
    · by_cases hb : 1 ≤ B
      · have t1 : A * q1 ≥ 1 * q1 := Int.mul_le_mul_of_nonneg_right ha hq1
        have t2 : B * q2 ≥ 1 * q2 := Int.mul_le_mul_of_nonneg_right hb hq2
        omega
      · have t1 : A * dl ≥ 1 * dl := Int.mul_le_mul_of_nonneg_right ha h1
        have t2 : (-B) * dr ≥ 0 := Int.mul_nonneg (by omega) h2'
        rw [Int.neg_mul] at t2
        have t : (A * dl - B * dr) * M ≥ dl * M := Int.mul_le_mul_of_nonneg_right (by omega) hM
        omega
    · by_cases hb : 1 ≤ B
      · have t1 : B * dr ≥ 1 * dr := Int.mul_le_mul_of_nonneg_right hb h2'
        have t2 : (-A) * dl ≥ 0 := Int.mul_nonneg (by omega) h1
        rw [Int.neg_mul] at t2
        have t : (B * dr - A * dl) * M ≥ dr * M := Int.mul_le_mul_of_nonneg_right (by omega) hM
        omega
      · have t1 : (-A) * q1 ≥ 0 := Int.mul_nonneg (by omega) hq1
        have t2 : (-B) * q2 ≥ 0 := Int.mul_nonneg (by omega) hq2
        rw [Int.neg_mul] at t1 t2
        omega

/-- the check of one ratio G over C: q1 and q2 are the neighbours' denominators -/
def okc (G C M N q1 q2 : Nat) : Bool :=
  let p1 := q1 * G / C
  let p2 := q2 * G / C + 1
  p2 * q1 == p1 * q2 + 1 && decide (2 * C ≤ (p2 * C - q2 * G) * M) && (p1 * C == q1 * G || (decide (2 * C ≤ (q1 * G - p1 * C) * M) && decide (N < q1 + q2)))

theorem okc_near {G C M N q1 q2 : Nat} (h : okc G C M N q1 q2 = true) (hC : 0 < C) {M' x n : Nat} (hM : M ≤ M') (hx : 1 ≤ x) (hN : x ≤ N) (l : x * G * M' < n * C * M' + 2 * C) (r : n * C * M' < x * G * M' + 2 * C) : x * G = n * C := by
  simp only [okc, Bool.and_eq_true, Bool.or_eq_true, beq_iff_eq, decide_eq_true_eq] at h
  obtain ⟨⟨hd, h2⟩, h3⟩ := h
  have e1 : q1 * G / C * C ≤ q1 * G := Nat.div_mul_le_self _ _
  have e2 : q2 * G < (q2 * G / C + 1) * C := by rw [Nat.add_mul, Nat.one_mul]; have := Nat.div_add_mod (q2 * G) C; have := Nat.mod_lt (q2 * G) hC; rw [Nat.mul_comm (q2 * G / C) C]; omega
  generalize q1 * G / C = p1 at *
  generalize q2 * G / C + 1 = p2 at *
  have up : ∀ a : Nat, 2 * C ≤ a * M → 2 * C ≤ a * M' := fun a ha => Nat.le_trans ha (Nat.mul_le_mul_left _ hM)
  have h2 := up _ h2
  have h3 : p1 * C = q1 * G ∨ (2 * C ≤ (q1 * G - p1 * C) * M' ∧ N < q1 + q2) := h3.imp id fun h => ⟨up _ h.1, h.2⟩
  have key := near (G := G) (C := C) (q1 := q1) (p1 := p1) (q2 := q2) (p2 := p2) (M := M') (N := N) (x := x) (n := n) (by omega) (by omega) (by omega) (by omega) (by omega)
    (by exact_mod_cast hd) (by have : ((p1 * C : Nat) : Int) ≤ (q1 * G : Nat) := by exact_mod_cast e1
                               simp only [Int.natCast_mul] at this; omega)
    (by have : ((2 * C : Nat) : Int) ≤ (((p2 * C - q2 * G) * M' : Nat) : Int) := by exact_mod_cast h2
        rw [Int.natCast_mul, Int.natCast_mul, Int.natCast_sub (by omega), Int.natCast_mul, Int.natCast_mul] at this; exact this)
    (by have : ((q2 * G : Nat) : Int) ≤ (p2 * C : Nat) := by exact_mod_cast (Nat.le_of_lt e2)
        simp only [Int.natCast_mul] at this; omega)
    (by rcases h3 with h3 | ⟨h3, h4⟩
        · left; have : ((p1 * C : Nat) : Int) = (q1 * G : Nat) := by exact_mod_cast h3
          simp only [Int.natCast_mul] at this; omega
        · right
          refine ⟨?_, by exact_mod_cast h4⟩
          have : ((2 * C : Nat) : Int) ≤ (((q1 * G - p1 * C) * M' : Nat) : Int) := by exact_mod_cast h3
          rw [Int.natCast_mul, Int.natCast_mul, Int.natCast_sub (by omega), Int.natCast_mul, Int.natCast_mul] at this; exact this)
    (by have : ((x * G * M' : Nat) : Int) < ((n * C * M' + 2 * C : Nat) : Int) := by exact_mod_cast l
        simp only [Int.natCast_mul, Int.natCast_add] at this; rw [Int.sub_mul]; omega)
    (by have : ((n * C * M' : Nat) : Int) < ((x * G * M' + 2 * C : Nat) : Int) := by exact_mod_cast r
        simp only [Int.natCast_mul, Int.natCast_add] at this; rw [Int.sub_mul]; omega)
  exact_mod_cast key

/-! ### the fast product -/
/-- uscale -/
def us (x hi0 lo0 s : Nat) : Nat :=
  if x * hi0 / 2 ^ 64 / 2 ^ s * 2 ^ s ≠ x * hi0 / 2 ^ 64 then (x * hi0 / 2 ^ 64 / 2 ^ s) ||| 1
  else ((x * hi0 / 2 ^ 64 - (if x * hi0 % 2 ^ 64 < x * lo0 / 2 ^ 64 then 1 else 0)) / 2 ^ s) ||| (if (x * hi0 % 2 ^ 64 + 2 ^ 64 - x * lo0 / 2 ^ 64) % 2 ^ 64 > 1 then 1 else 0)

theorem divmod_of {T q r D : Nat} (h : T = D * q + r) (hr : r < D) : T / D = q ∧ T % D = r := by
  subst h
  rw [Nat.mul_add_div (by omega), Nat.mul_add_mod, Nat.div_eq_of_lt hr, Nat.mod_eq_of_lt hr]
  exact ⟨by omega, rfl⟩

theorem us_T {x hi0 lo0 s : Nat} (hx : x < 2 ^ 64) (hl : lo0 < 2 ^ 64) (hh : 1 ≤ hi0) :
    us x hi0 lo0 s = ((x * hi0 - x * lo0 / 2 ^ 64) / 2 ^ (64 + s)) ||| (if (x * hi0 - x * lo0 / 2 ^ 64) % 2 ^ (64 + s) > 1 then 1 else 0) := by
  unfold us
  have hm2 : x * lo0 / 2 ^ 64 ≤ 2 ^ 64 - 2 ∧ x * lo0 / 2 ^ 64 ≤ x := by
    have h1 : x * lo0 ≤ (2 ^ 64 - 1) * (2 ^ 64 - 1) := Nat.mul_le_mul (by omega) (by omega)
    have h2 : x * lo0 ≤ x * 2 ^ 64 := Nat.mul_le_mul_left _ (by omega)
    have h3 := Nat.div_add_mod (x * lo0) (2 ^ 64)
    constructor <;> omega
  have hx1 : x ≤ x * hi0 := Nat.le_mul_of_pos_right _ (by omega)
  have hmod := Nat.mod_lt (x * hi0) (show 0 < 2 ^ 64 by decide)
  have hdm := Nat.div_add_mod (x * hi0) (2 ^ 64)
  generalize x * lo0 / 2 ^ 64 = m2 at *
  generalize x * hi0 / 2 ^ 64 = H at *
  generalize x * hi0 % 2 ^ 64 = m at *
  generalize x * hi0 = X at *
  rw [Nat.pow_add]
  have hS : 0 < 2 ^ s := Nat.pow_pos (by decide)
  generalize 2 ^ s = S at *
  have hHd := Nat.div_add_mod H S
  have hHm := Nat.mod_lt H hS
  have hcomm : H / S * S = S * (H / S) := Nat.mul_comm _ _
  have hKS : 2 ^ 64 ≤ 2 ^ 64 * S := Nat.le_mul_of_pos_right _ hS
  by_cases hz : H % S = 0
  · rw [if_neg (by omega)]
    by_cases hlt : m < m2
    · rw [if_pos hlt]
      have hH1 : 1 ≤ H / S := by
        rcases Nat.eq_zero_or_pos (H / S) with h0 | h0
        · rw [h0] at hHd; omega
        · exact h0
      obtain ⟨q, hq⟩ : ∃ q, H / S = q + 1 := ⟨H / S - 1, by omega⟩
      rw [hq, Nat.mul_add] at hHd
      have e1 : X - m2 = 2 ^ 64 * S * q + (2 ^ 64 * S + m - m2) := by
        have : 2 ^ 64 * H = 2 ^ 64 * S * q + 2 ^ 64 * S := by rw [← hHd, hz]; simp [Nat.mul_add, Nat.mul_assoc]
        omega
      obtain ⟨d1, d2⟩ := divmod_of e1 (by omega)
      rw [d1, d2, if_pos (by omega), if_pos (by omega)]
      have : (H - 1) / S = q := (divmod_of (T := H - 1) (q := q) (r := S - 1) (D := S) (by omega) (by omega)).1
      rw [this]
    · rw [if_neg hlt]
      have e1 : X - m2 = 2 ^ 64 * S * (H / S) + (m - m2) := by
        have : 2 ^ 64 * H = 2 ^ 64 * S * (H / S) := by rw [Nat.mul_assoc, show S * (H / S) = H by omega]
        omega
      obtain ⟨d1, d2⟩ := divmod_of e1 (by omega)
      rw [d1, d2, Nat.sub_zero]
      congr 1
      by_cases h1 : m - m2 > 1
      · rw [if_pos (by omega), if_pos h1]
      · rw [if_neg (by omega), if_neg h1]
  · rw [if_pos (by omega)]
    have e1 : X - m2 = 2 ^ 64 * S * (H / S) + (2 ^ 64 * (H % S) + m - m2) := by
      have : 2 ^ 64 * H = 2 ^ 64 * S * (H / S) + 2 ^ 64 * (H % S) := by rw [Nat.mul_assoc, ← Nat.mul_add, hHd]
      omega
    have hb : 2 ^ 64 * (H % S) + 2 ^ 64 ≤ 2 ^ 64 * S := by
      have : 2 ^ 64 * (H % S + 1) ≤ 2 ^ 64 * S := Nat.mul_le_mul_left _ (by omega)
      omega
    obtain ⟨d1, d2⟩ := divmod_of e1 (by omega)
    rw [d1, d2, if_pos (by omega)]

/-- the exact unrounded value of y over C -/
def un (y C : Nat) : Nat := (y / C) ||| (if y % C = 0 then 0 else 1)

theorem us_exact {x hi0 lo0 s N C y : Nat} (hx : x < 2 ^ 64) (hx0 : 1 ≤ x) (hl : lo0 < 2 ^ 64) (hh : 1 ≤ hi0) (hC : 0 < C)
    (h1 : N ≤ (hi0 * 2 ^ 64 - lo0) * C) (h2 : (hi0 * 2 ^ 64 - lo0) * C < N + C) (hxy : x * N = y * (2 ^ 64 * 2 ^ (64 + s)))
    (hn : ∀ n, y * 2 ^ (64 + s) < n * C * 2 ^ (64 + s) + 2 * C → n * C * 2 ^ (64 + s) < y * 2 ^ (64 + s) + 2 * C → y = n * C) :
    us x hi0 lo0 s = un y C := by
  rw [us_T hx hl hh]
  unfold un
  have hM : 2 ≤ 2 ^ (64 + s) := by
    have : 2 ^ 64 * 1 ≤ 2 ^ 64 * 2 ^ s := Nat.mul_le_mul_left _ (Nat.pow_pos (by decide))
    rw [Nat.pow_add]; omega
  generalize 2 ^ (64 + s) = M at *
  -- T is the ceiling of x pm over 2 ^ 64
  have hT : ∃ l, l < 2 ^ 64 ∧ (x * hi0 - x * lo0 / 2 ^ 64) * 2 ^ 64 = x * (hi0 * 2 ^ 64 - lo0) + l := by
    have a := Nat.div_add_mod (x * lo0) (2 ^ 64)
    have b := Nat.mod_lt (x * lo0) (show 0 < 2 ^ 64 by decide)
    refine ⟨x * lo0 % 2 ^ 64, b, ?_⟩
    rw [Nat.mul_sub, Nat.sub_mul, ← Nat.mul_assoc]
    have c : x * lo0 ≤ x * hi0 * 2 ^ 64 := by rw [Nat.mul_assoc]; exact Nat.mul_le_mul_left _ (by omega)
    have e : x * lo0 / 2 ^ 64 * 2 ^ 64 = 2 ^ 64 * (x * lo0 / 2 ^ 64) := Nat.mul_comm _ _
    omega
  obtain ⟨l, hl1, hT⟩ := hT
  generalize x * hi0 - x * lo0 / 2 ^ 64 = T at *
  generalize hi0 * 2 ^ 64 - lo0 = pm at *
  -- y M <= T C < y M + 2 C
  have ha : y * M ≤ T * C := by
    have t1 : x * N ≤ x * (pm * C) := Nat.mul_le_mul_left _ h1
    have t2 : x * (pm * C) ≤ T * 2 ^ 64 * C := by rw [hT, ← Nat.mul_assoc]; exact Nat.mul_le_mul_right _ (by omega)
    have t3 : (y * M) * 2 ^ 64 ≤ (T * C) * 2 ^ 64 := by
      calc (y * M) * 2 ^ 64 = x * N := by rw [hxy]; grind
        _ ≤ T * 2 ^ 64 * C := Nat.le_trans t1 t2
        _ = (T * C) * 2 ^ 64 := by grind
    exact Nat.le_of_mul_le_mul_right t3 (by decide)
  have hb : T * C < y * M + 2 * C := by
    have t1 : T * 2 ^ 64 * C = x * (pm * C) + l * C := by rw [hT]; grind
    have t2 : x * (pm * C) < x * (N + C) := Nat.mul_lt_mul_of_pos_left h2 (by omega)
    have t3 : l * C ≤ 2 ^ 64 * C := Nat.mul_le_mul_right _ (by omega)
    have t4 : x * C ≤ 2 ^ 64 * C := Nat.mul_le_mul_right _ (by omega)
    rw [Nat.mul_add] at t2
    have t5 : (T * C) * 2 ^ 64 < (y * M + 2 * C) * 2 ^ 64 := by
      have e1 : (T * C) * 2 ^ 64 = T * 2 ^ 64 * C := by grind
      have e2 : (y * M + 2 * C) * 2 ^ 64 = x * N + 2 * (2 ^ 64 * C) := by rw [hxy]; grind
      omega
    exact Nat.lt_of_mul_lt_mul_right t5
  have hd := Nat.div_add_mod T M
  have hr := Nat.mod_lt T (show 0 < M by omega)
  generalize hq : T / M = n at *
  generalize T % M = r at *
  have hTC : T * C = n * C * M + r * C := by rw [← hd]; grind
  by_cases hr1 : r > 1
  · rw [if_pos hr1]
    have k1 : 2 * C ≤ r * C := Nat.mul_le_mul_right _ hr1
    have k2 : n * C < y := by
      have : n * C * M < y * M := by omega
      exact Nat.lt_of_mul_lt_mul_right this
    have k3 : y < (n + 1) * C := by
      have : (r + 1) * C ≤ M * C := Nat.mul_le_mul_right _ (by omega)
      have e : (n + 1) * C * M = n * C * M + M * C := by grind
      have : y * M < (n + 1) * C * M := by rw [e]; rw [Nat.add_mul] at this; omega
      exact Nat.lt_of_mul_lt_mul_right this
    rw [Nat.add_mul, Nat.one_mul] at k3
    obtain ⟨d1, d2⟩ := divmod_of (T := y) (q := n) (r := y - n * C) (D := C) (by rw [Nat.mul_comm]; omega) (by omega)
    rw [d1, d2, if_neg (by omega)]
  · rw [if_neg hr1]
    have k1 : r * C ≤ C := by
      have : r * C ≤ 1 * C := Nat.mul_le_mul_right _ (by omega)
      omega
    have := hn n (by omega) (by omega)
    subst this
    rw [Nat.mul_div_cancel _ hC, Nat.mul_mod_left, if_pos rfl]

end Pd
end Go.Proofs.Qxb6614922aDoor
