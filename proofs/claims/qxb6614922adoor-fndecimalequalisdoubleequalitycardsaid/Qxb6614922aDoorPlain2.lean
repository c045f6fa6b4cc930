/-
  The digits that shortFloat picks lie between the two midpoints.
-/
import Derived.Test.Qxb6614922aDoorPlain
namespace Go.Proofs.Qxb6614922aDoor
namespace Pd

theorem or_one (n : Nat) : n ||| 1 = 2 * (n / 2) + 1 := by
  have a : (n ||| 1) / 2 = n / 2 := by rw [Nat.or_div_two]; simp
  have b : (n ||| 1) % 2 = 1 := by simp
  omega

theorem un_cases (y C : Nat) : (y % C = 0 ∧ un y C = y / C) ∨ (0 < y % C ∧ un y C = 2 * (y / C / 2) + 1) := by
  unfold un
  by_cases h : y % C = 0
  · left; simp [h]
  · right; rw [if_neg h, or_one]; exact ⟨by omega, rfl⟩

section
variable {y C t : Nat}
theorem ge_of (hC : 0 < C) (h0 : y % C = 0 → y / C ≤ t) (h1 : 0 < y % C → y / C + 1 ≤ t) : y ≤ C * t := by
  have hd := Nat.div_add_mod y C
  have hr := Nat.mod_lt y hC
  rcases Nat.eq_zero_or_pos (y % C) with h | h
  · have := Nat.mul_le_mul_left C (h0 h); omega
  · have := Nat.mul_le_mul_left C (h1 h); rw [Nat.mul_add] at this; omega
theorem gt_of (hC : 0 < C) (h : y / C + 1 ≤ t) : y < C * t := by
  have hd := Nat.div_add_mod y C
  have hr := Nat.mod_lt y hC
  have := Nat.mul_le_mul_left C h; rw [Nat.mul_add] at this; omega
theorem le_of (h : t ≤ y / C) : C * t ≤ y := by
  have hd := Nat.div_add_mod y C
  have := Nat.mul_le_mul_left C h; omega
theorem lt_of (hC : 0 < C) (h0 : y % C = 0 → t + 1 ≤ y / C) (h1 : 0 < y % C → t ≤ y / C) : C * t < y := by
  have hd := Nat.div_add_mod y C
  rcases Nat.eq_zero_or_pos (y % C) with h | h
  · have := Nat.mul_le_mul_left C (h0 h); rw [Nat.mul_add] at this; omega
  · have := Nat.mul_le_mul_left C (h1 h); omega
end

theorem un_ceil {y C : Nat} (hC : 0 < C) : y ≤ C * (4 * ((un y C + 3) / 4)) := by
  rcases un_cases y C with ⟨h, e⟩ | ⟨h, e⟩ <;> rw [e]
  · exact ge_of hC (fun _ => by omega) (fun _ => by omega)
  · exact ge_of hC (fun _ => by omega) (fun _ => by omega)
theorem un_ceil_lt {y C : Nat} (hC : 0 < C) : C * (4 * ((un y C + 3) / 4)) < y + 4 * C := by
  have e4 : y + 4 * C = y + C * 4 := by omega
  rw [e4]
  rcases un_cases y C with ⟨h, e⟩ | ⟨h, e⟩ <;> rw [e]
  · exact lt_of hC (fun _ => by rw [Nat.add_mul_div_left _ _ hC]; omega) (fun _ => by rw [Nat.add_mul_div_left _ _ hC]; omega)
  · refine lt_of hC (fun h' => ?_) (fun _ => by rw [Nat.add_mul_div_left _ _ hC]; omega)
    rw [Nat.add_mul_mod_self_left] at h'; omega
theorem un_ceil1 {y C : Nat} (hC : 0 < C) : y < C * (4 * ((un y C + 1 + 3) / 4)) := by
  rcases un_cases y C with ⟨h, e⟩ | ⟨h, e⟩ <;> rw [e] <;> exact gt_of hC (by omega)
theorem un_ceil1_le {y C : Nat} (hC : 0 < C) : C * (4 * ((un y C + 1 + 3) / 4)) ≤ y + 4 * C := by
  have e4 : y + 4 * C = y + C * 4 := by omega
  rw [e4]
  rcases un_cases y C with ⟨h, e⟩ | ⟨h, e⟩ <;> rw [e] <;> exact le_of (by rw [Nat.add_mul_div_left _ _ hC]; omega)
theorem un_floor {y C : Nat} : C * (4 * (un y C / 4)) ≤ y := by
  rcases un_cases y C with ⟨h, e⟩ | ⟨h, e⟩ <;> rw [e] <;> exact le_of (by omega)
theorem un_floor1 {y C : Nat} (hC : 0 < C) (hu : 1 ≤ un y C) : C * (4 * ((un y C - 1) / 4)) < y := by
  rcases un_cases y C with ⟨h, e⟩ | ⟨h, e⟩ <;> rw [e] at hu ⊢
  · exact lt_of hC (fun _ => by omega) (fun _ => by omega)
  · exact lt_of hC (fun _ => by omega) (fun _ => by omega)
theorem un_round_le {y C : Nat} (hC : 0 < C) : C * (4 * ((un y C + 1 + un y C / 4 % 2) / 4)) ≤ y + 2 * C := by
  have e4 : y + 2 * C = y + C * 2 := by omega
  rw [e4]
  rcases un_cases y C with ⟨h, e⟩ | ⟨h, e⟩ <;> rw [e] <;> exact le_of (by rw [Nat.add_mul_div_left _ _ hC]; omega)
theorem un_round_ge {y C : Nat} (hC : 0 < C) : y ≤ C * (4 * ((un y C + 1 + un y C / 4 % 2) / 4)) + 2 * C := by
  have e4 : ∀ t, C * t + 2 * C = C * (t + 2) := fun t => by rw [Nat.mul_add]; omega
  rw [e4]
  rcases un_cases y C with ⟨h, e⟩ | ⟨h, e⟩ <;> rw [e] <;> exact ge_of hC (fun _ => by omega) (fun _ => by omega)
theorem un_ge {y C n : Nat} (hC : 0 < C) (h : C * n ≤ y) : n ≤ un y C := by
  have : n ≤ y / C := (Nat.le_div_iff_mul_le hC).2 (by rw [Nat.mul_comm]; exact h)
  rcases un_cases y C with ⟨_, e⟩ | ⟨_, e⟩ <;> rw [e] <;> omega

/-- shortFloat's choice out of the three unrounded values: the digits, and whether one more zero belongs behind them -/
def pick (u1 u2 u3 odd : Nat) : Nat × Bool :=
  if (u1 + odd + 3) / 4 ≤ (u3 - odd) / 4 / 10 * 10 then ((u3 - odd) / 4 / 10, true)
  else if (u1 + odd + 3) / 4 < (u3 - odd) / 4 then ((u2 + 1 + u2 / 4 % 2) / 4, false)
  else ((u1 + odd + 3) / 4, false)
/-- their value -/
def pickV (d : Nat × Bool) : Nat := if d.2 then d.1 * 10 else d.1

theorem pick_between {y1 g C odd : Nat} (hC : 0 < C) (ho : odd < 2) (hg : 2 * C ≤ g) (hs : odd = 1 → 2 * C < g ∨ (g = 2 * C ∧ ∃ j, y1 = C * (4 * j + 2))) :
    y1 ≤ C * (4 * pickV (pick (un y1 C) (un (y1 + g) C) (un (y1 + 2 * g) C) odd)) ∧ C * (4 * pickV (pick (un y1 C) (un (y1 + g) C) (un (y1 + 2 * g) C) odd)) ≤ y1 + 2 * g ∧
    (odd = 1 → y1 < C * (4 * pickV (pick (un y1 C) (un (y1 + g) C) (un (y1 + 2 * g) C) odd)) ∧ C * (4 * pickV (pick (un y1 C) (un (y1 + g) C) (un (y1 + 2 * g) C) odd)) < y1 + 2 * g) := by
  -- the lower end
  have lo : ∀ D, (un y1 C + odd + 3) / 4 ≤ D → y1 ≤ C * (4 * D) ∧ (odd = 1 → y1 < C * (4 * D)) := by
    intro D hD
    have up : C * (4 * ((un y1 C + odd + 3) / 4)) ≤ C * (4 * D) := Nat.mul_le_mul_left _ (by omega)
    rcases (show odd = 0 ∨ odd = 1 by omega) with rfl | rfl
    · exact ⟨Nat.le_trans (un_ceil hC) up, fun h => by omega⟩
    · have := un_ceil1 (y := y1) hC
      exact ⟨by omega, fun _ => by omega⟩
  have u4 : 4 ≤ un (y1 + 2 * g) C := un_ge hC (by omega)
  have hi : ∀ D, D ≤ (un (y1 + 2 * g) C - odd) / 4 → C * (4 * D) ≤ y1 + 2 * g ∧ (odd = 1 → C * (4 * D) < y1 + 2 * g) := by
    intro D hD
    have up : C * (4 * D) ≤ C * (4 * ((un (y1 + 2 * g) C - odd) / 4)) := Nat.mul_le_mul_left _ (by omega)
    rcases (show odd = 0 ∨ odd = 1 by omega) with rfl | rfl
    · exact ⟨Nat.le_trans up un_floor, fun h => by omega⟩
    · have := un_floor1 (y := y1 + 2 * g) hC (by omega)
      exact ⟨by omega, fun _ => by omega⟩
  unfold pick
  by_cases h1 : (un y1 C + odd + 3) / 4 ≤ (un (y1 + 2 * g) C - odd) / 4 / 10 * 10
  · rw [if_pos h1]
    show y1 ≤ C * (4 * ((un (y1 + 2 * g) C - odd) / 4 / 10 * 10)) ∧ C * (4 * ((un (y1 + 2 * g) C - odd) / 4 / 10 * 10)) ≤ y1 + 2 * g ∧ (odd = 1 → y1 < C * (4 * ((un (y1 + 2 * g) C - odd) / 4 / 10 * 10)) ∧ C * (4 * ((un (y1 + 2 * g) C - odd) / 4 / 10 * 10)) < y1 + 2 * g)
    obtain ⟨a, b⟩ := lo _ h1
    obtain ⟨c, d⟩ := hi _ (Nat.div_mul_le_self _ 10)
    exact ⟨a, c, fun h => ⟨b h, d h⟩⟩
  · rw [if_neg h1]
    by_cases h2 : (un y1 C + odd + 3) / 4 < (un (y1 + 2 * g) C - odd) / 4
    · rw [if_pos h2]
      show y1 ≤ C * (4 * ((un (y1 + g) C + 1 + un (y1 + g) C / 4 % 2) / 4)) ∧ C * (4 * ((un (y1 + g) C + 1 + un (y1 + g) C / 4 % 2) / 4)) ≤ y1 + 2 * g ∧ (odd = 1 → y1 < C * (4 * ((un (y1 + g) C + 1 + un (y1 + g) C / 4 % 2) / 4)) ∧ C * (4 * ((un (y1 + g) C + 1 + un (y1 + g) C / 4 % 2) / 4)) < y1 + 2 * g)
      have r1 := un_round_le (y := y1 + g) hC
      have r2 := un_round_ge (y := y1 + g) hC
      obtain ⟨a, b⟩ := lo _ (Nat.le_refl _)
      obtain ⟨c, d⟩ := hi _ (Nat.le_refl _)
      have hgap : C * (4 * ((un y1 C + odd + 3) / 4)) + 4 * C ≤ C * (4 * ((un (y1 + 2 * g) C - odd) / 4)) := by
        have : C * (4 * ((un y1 C + odd + 3) / 4) + 4) ≤ C * (4 * ((un (y1 + 2 * g) C - odd) / 4)) := Nat.mul_le_mul_left _ (by omega)
        rw [Nat.mul_add] at this
        omega
      exact ⟨by omega, by omega, fun h => by have := b h; have := d h; constructor <;> omega⟩
    · rw [if_neg h2]
      show y1 ≤ C * (4 * ((un y1 C + odd + 3) / 4)) ∧ C * (4 * ((un y1 C + odd + 3) / 4)) ≤ y1 + 2 * g ∧ (odd = 1 → y1 < C * (4 * ((un y1 C + odd + 3) / 4)) ∧ C * (4 * ((un y1 C + odd + 3) / 4)) < y1 + 2 * g)
      obtain ⟨a, b⟩ := lo _ (Nat.le_refl _)
      rcases (show odd = 0 ∨ odd = 1 by omega) with rfl | rfl
      · have := un_ceil_lt (y := y1) hC
        simp only [Nat.add_zero] at a ⊢
        exact ⟨a, by omega, fun h => by omega⟩
      · have k := un_ceil1_le (y := y1) hC
        refine ⟨a, by omega, fun h => ⟨b h, ?_⟩⟩
        rcases hs rfl with hs | ⟨hs, j, hj⟩
        · omega
        · have k2 : C * (4 * ((un y1 C + 1 + 3) / 4)) ≤ C * (4 * j + 6) := by
            have e : C * (4 * j + 6) = C * (4 * j + 2) + 4 * C := by rw [Nat.mul_add, Nat.mul_add]; omega
            omega
          have k3 : 4 * ((un y1 C + 1 + 3) / 4) ≤ 4 * j + 6 := Nat.le_of_mul_le_mul_left k2 hC
          have k4 : C * (4 * ((un y1 C + 1 + 3) / 4)) ≤ C * (4 * j + 4) := Nat.mul_le_mul_left _ (by omega)
          have e : C * (4 * j + 4) = C * (4 * j + 2) + 2 * C := by rw [Nat.mul_add, Nat.mul_add]; omega
          omega

end Pd
end Go.Proofs.Qxb6614922aDoor
