/-
  THE PLAIN SIDE: varints and messages on the wire. No model in this text.
-/
import Derived.Lib.Varint
import Derived.Lib.ValidLaws
namespace Go.Proofs.Qxb6616388aFmt.Pl
open Go.Lib

/-- a varint is told from what follows it -/
theorem uvarint_split (n : Nat) : ∀ (x y : Nat) (r s : List UInt8), x ≤ n → uvarint x ++ r = uvarint y ++ s → x = y ∧ r = s := by
  induction n with
  | zero =>
    intro x y r s hx h
    have : x = 0 := by omega
    subst this
    rw [uvarint_small (x := 0) (by omega)] at h
    by_cases hy : y < 128
    · rw [uvarint_small hy] at h
      simp at h
      refine ⟨?_, h.2⟩
      have := congrArg UInt8.toNat h.1
      simp at this
      omega
    · rw [uvarint_big (by omega)] at h
      simp at h
      have := congrArg UInt8.toNat h.1
      simp at this
      omega
  | succ n ih =>
    intro x y r s hx h
    by_cases hx1 : x < 128
    · rw [uvarint_small hx1] at h
      by_cases hy : y < 128
      · rw [uvarint_small hy] at h
        simp at h
        refine ⟨?_, h.2⟩
        have := congrArg UInt8.toNat h.1
        simp at this
        omega
      · rw [uvarint_big (by omega)] at h
        simp at h
        have := congrArg UInt8.toNat h.1
        simp at this
        omega
    · rw [uvarint_big (by omega)] at h
      by_cases hy : y < 128
      · rw [uvarint_small hy] at h
        simp at h
        have := congrArg UInt8.toNat h.1
        simp at this
        omega
      · rw [uvarint_big (x := y) (by omega)] at h
        simp only [List.cons_append, List.cons.injEq] at h
        obtain ⟨e, hr⟩ := ih (x / 128) (y / 128) r s (by omega) h.2
        refine ⟨?_, hr⟩
        have := congrArg UInt8.toNat h.1
        simp at this
        omega

/-- a message's bytes -/
def wire (k : Nat) (f t : List UInt8) (tm : Nat) : List UInt8 :=
  [3, k.toUInt8] ++ (uvarint f.length ++ (f ++ (uvarint t.length ++ (t ++ uvarint tm))))

theorem wire_length (k : Nat) (f t : List UInt8) (tm : Nat) : (wire k f t tm).length = 2 + (uvarint f.length).length + f.length + (uvarint t.length).length + t.length + (uvarint tm).length := by
  simp [wire]; omega

/-- TWO MESSAGES, ONE THE OTHER's PREFIX: THEY ARE ONE -/
theorem wire_split {k k' : Nat} {f t f' t' : List UInt8} {tm tm' : Nat} {r : List UInt8} (hk : k < 256) (hk' : k' < 256) (h : wire k f t tm ++ r = wire k' f' t' tm') : k = k' ∧ f = f' ∧ t = t' ∧ tm = tm' ∧ r = [] := by
  simp only [wire, List.cons_append, List.nil_append, List.append_assoc, List.cons.injEq, true_and] at h
  obtain ⟨hk1, h1⟩ := h
  have e0 : k = k' := by
    have := congrArg UInt8.toNat hk1
    simp at this
    omega
  obtain ⟨e1, h2⟩ := uvarint_split _ _ _ _ _ (Nat.le_refl _) h1
  obtain ⟨e2, h3⟩ := List.append_inj h2 e1
  obtain ⟨e3, h4⟩ := uvarint_split _ _ _ _ _ (Nat.le_refl _) h3
  obtain ⟨e4, h5⟩ := List.append_inj h4 e3
  rw [show uvarint tm' = uvarint tm' ++ [] by simp] at h5
  obtain ⟨e5, h6⟩ := uvarint_split _ _ _ _ _ (Nat.le_refl _) h5
  exact ⟨e0, e2, e4, e5, h6⟩

/-- which messages are taken -/
def okName (s : List UInt8) : Bool := !s.isEmpty && validD s
def accepted (k : Int) (f t : List UInt8) : Bool := decide (1 ≤ k) && decide (k ≤ 3) && okName f && okName t

/-- zzVarLen -/
theorem uvarint_len_step {x : Nat} (h : 128 ≤ x) : (uvarint x).length = (uvarint (x / 128)).length + 1 := by rw [uvarint_big h]; rfl
theorem uvarint_len_small {x : Nat} (h : x < 128) : (uvarint x).length = 1 := by rw [uvarint_small h]; rfl

/-- a name of bytes below 128 is valid -/
theorem valid_low (l : List UInt8) (h : ∀ b ∈ l, b.toNat < 128) : validD l = true := by
  rw [validD_ascii l.length l (fun b hb => h b (List.mem_of_mem_take hb)), List.drop_length, validD_nil]

/-! ### the lead bytes, as the law's own ladder has them -/
/-- what a lead byte from 128 on asks: how many bytes follow, and the second's bounds -/
def lead (c : Nat) : Option (Nat × Nat × Nat) :=
  if 194 ≤ c ∧ c ≤ 223 then some (1, 128, 191)
  else if c = 224 then some (2, 160, 191)
  else if 225 ≤ c ∧ c ≤ 236 then some (2, 128, 191)
  else if c = 237 then some (2, 128, 159)
  else if c = 238 ∨ c = 239 then some (2, 128, 191)
  else if c = 240 then some (3, 144, 191)
  else if 241 ≤ c ∧ c ≤ 243 then some (3, 128, 191)
  else if c = 244 then some (3, 128, 143)
  else none

theorem lead_table : ∀ c : Fin 256, 128 ≤ c.val →
    (lead c.val = none ∧ firstT c.val % 8 = 1) ∨ ∃ n lo hi, lead c.val = some (n, lo, hi) ∧ firstT c.val % 8 = n + 1 ∧ accLo (firstT c.val / 16) = lo ∧ accHi (firstT c.val / 16) = hi ∧ (n = 1 ∨ n = 2 ∨ n = 3) := by
  intro c hc
  have hc2 := c.isLt
  generalize c.val = x at hc hc2
  unfold lead
  by_cases h0 : x < 194
  · left; refine ⟨by rw [if_neg (by omega), if_neg (by omega), if_neg (by omega), if_neg (by omega), if_neg (by omega), if_neg (by omega), if_neg (by omega), if_neg (by omega)], ?_⟩; simp [firstT, show ¬ x < 128 by omega, h0]
  by_cases h1 : x < 224
  · right; refine ⟨1, 128, 191, by rw [if_pos (by omega)], ?_⟩; simp [firstT, accLo, accHi, show ¬ x < 128 by omega, h0, h1]
  by_cases h2 : x = 224
  · subst h2; right; exact ⟨2, 160, 191, by simp, by decide, by decide, by decide, by omega⟩
  by_cases h3 : x < 237
  · right; refine ⟨2, 128, 191, by rw [if_neg (by omega), if_neg h2, if_pos (by omega)], ?_⟩; simp [firstT, accLo, accHi, show ¬ x < 128 by omega, h0, h1, h2, h3]
  by_cases h4 : x = 237
  · subst h4; right; exact ⟨2, 128, 159, by simp, by decide, by decide, by decide, by omega⟩
  by_cases h5 : x < 240
  · right; refine ⟨2, 128, 191, by rw [if_neg (by omega), if_neg h2, if_neg (by omega), if_neg h4, if_pos (by omega)], ?_⟩; simp [firstT, accLo, accHi, show ¬ x < 128 by omega, h0, h1, h2, h3, h4, h5]
  by_cases h6 : x = 240
  · subst h6; right; exact ⟨3, 144, 191, by simp, by decide, by decide, by decide, by omega⟩
  by_cases h7 : x < 244
  · right; refine ⟨3, 128, 191, by rw [if_neg (by omega), if_neg h2, if_neg (by omega), if_neg h4, if_neg (by omega), if_neg h6, if_pos (by omega)], ?_⟩; simp [firstT, accLo, accHi, show ¬ x < 128 by omega, h0, h1, h2, h3, h4, h5, h6, h7]
  by_cases h8 : x = 244
  · subst h8; right; exact ⟨3, 128, 143, by simp, by decide, by decide, by decide, by omega⟩
  · left; refine ⟨by rw [if_neg (by omega), if_neg h2, if_neg (by omega), if_neg h4, if_neg (by omega), if_neg h6, if_neg (by omega), if_neg h8], ?_⟩; simp [firstT, show ¬ x < 128 by omega, h0, h1, h2, h3, h4, h5, h6, h7, h8]

/-- validD at a lead byte that the ladder refuses -/
theorem valid_bad (l : List UInt8) (c : UInt8) (h0 : l[0]? = some c) (hc : 128 ≤ c.toNat) (hl : lead c.toNat = none) : validD l = false := by
  have hne : l ≠ [] := by rintro rfl; simp at h0
  have hg : l.getD 0 0 = c := by simp [List.getD, h0]
  rw [validD_lead l hne (by rw [hg]; exact hc), hg]
  rcases lead_table ⟨c.toNat, c.toNat_lt⟩ hc with ⟨_, h⟩ | ⟨n, lo, hi, h, _⟩
  · simp only at h
    rw [h]; simp [checkN]
  · simp only at h
    rw [hl] at h; cases h

/-- what a lead byte that it takes asks of the bytes behind it -/
def Good (l : List UInt8) (n lo hi : Nat) : Prop := n < l.length ∧ (lo ≤ (l.getD 1 0).toNat ∧ (l.getD 1 0).toNat ≤ hi) ∧ ∀ j, 2 ≤ j → j ≤ n → 128 ≤ (l.getD j 0).toNat ∧ (l.getD j 0).toNat ≤ 191

theorem valid_lead (l : List UInt8) (c : UInt8) (n lo hi : Nat) (h0 : l[0]? = some c) (hc : 128 ≤ c.toNat) (hl : lead c.toNat = some (n, lo, hi)) :
    (n = 1 ∨ n = 2 ∨ n = 3) ∧ (Good l n lo hi → validD l = validD (l.drop (n + 1))) ∧ (¬ Good l n lo hi → validD l = false) := by
  have hne : l ≠ [] := by rintro rfl; simp at h0
  have hg : l.getD 0 0 = c := by simp [List.getD, h0]
  rw [validD_lead l hne (by rw [hg]; exact hc), hg]
  rcases lead_table ⟨c.toNat, c.toNat_lt⟩ hc with ⟨h, _⟩ | ⟨n', lo', hi', h, h1, h2, h3, h4⟩
  · simp only at h
    rw [hl] at h; cases h
  · simp only at h h1 h2 h3 h4
    rw [hl] at h
    cases h
    refine ⟨h4, ?_⟩
    rw [h1, h2, h3]
    unfold checkN Good
    rcases h4 with rfl | rfl | rfl
    · rw [if_pos rfl]
      constructor
      · rintro ⟨a, b, _⟩
        rw [if_neg (by omega)]
      · intro hb
        rw [if_pos]
        refine Decidable.byContradiction fun hn => hb ⟨by omega, by omega, fun j _ _ => by omega⟩
    · rw [if_neg (by omega), if_pos rfl]
      constructor
      · rintro ⟨a, b, d⟩
        have d2 := d 2 (by omega) (by omega)
        rw [if_neg (by omega)]
      · intro hb
        rw [if_pos]
        refine Decidable.byContradiction fun hn => hb ⟨by omega, by omega, fun j _ _ => ?_⟩
        have : j = 2 := by omega
        subst this
        omega
    · rw [if_neg (by omega), if_neg (by omega), if_pos rfl]
      constructor
      · rintro ⟨a, b, d⟩
        have d2 := d 2 (by omega) (by omega)
        have d3 := d 3 (by omega) (by omega)
        rw [if_neg (by omega)]
      · intro hb
        rw [if_pos]
        refine Decidable.byContradiction fun hn => hb ⟨by omega, by omega, fun j _ _ => ?_⟩
        rcases (show j = 2 ∨ j = 3 by omega) with rfl | rfl <;> omega

end Go.Proofs.Qxb6616388aFmt.Pl
