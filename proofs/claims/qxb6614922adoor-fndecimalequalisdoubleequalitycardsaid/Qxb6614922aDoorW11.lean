/-
  The law.
-/
import Derived.Test.Qxb6614922aDoorW10
import Derived.Test.Qxb6614922aDoorFloat
namespace Go.Proofs.Qxb6614922aDoor
open Go.RowKit

theorem law_eq {a b : Nat} (ha : 1 ≤ a) (ha2 : a < 9218868437227405312) (hb : 1 ≤ b) (hb2 : b < 9218868437227405312) :
    (decide (Pd.ptB a = Pd.ptB b) && Pd.digs (Pd.dB a).1 == Pd.digs (Pd.dB b).1) = (FloatKind.f64.format.order a b == some .eq) := by
  rw [Pd.order_pos ha2 hb2]
  by_cases e : a = b
  · subst e; simp
  · rw [decide_eq_false e]
    rw [Bool.eq_false_iff]
    intro h
    simp only [Bool.and_eq_true, decide_eq_true_eq, beq_iff_eq] at h
    exact e (Pd.decimal_tells ha ha2 hb hb2 h.2 h.1)

theorem negFloat_lt (x : Nat) (h : x < 18446744073709551616) : Op.negFloat .f64 x < 18446744073709551616 := by
  unfold Op.negFloat
  exact Nat.xor_lt_two_pow (n := 64) h (by decide)

theorem neg_run (x : Nat) (w : World) : (Op.unary UnOp.neg (.float .f64 x)).run Tryd.prog w = .ok (.float .f64 (Op.negFloat .f64 x)) w := rfl

set_option maxHeartbeats 4000000 in
set_option maxRecDepth 100000 in
theorem law_any (x y : Nat) (hx : x < 18446744073709551616) (hy : y < 18446744073709551616) (w : World) (hE : Env w) (hw : 6 < w.heap.size) :
    Calls Tryd.prog 3 #[.float .f64 x, .float .f64 y] w fun e w' => e = .returned (.bool true) ∧ Below w.heap.size w w' := by
  have hnx := negFloat_lt x hx
  have hny := negFloat_lt y hy
  have hrx := neg_run x
  have hry := neg_run y
  generalize Op.negFloat .f64 x = nx at *
  generalize Op.negFloat .f64 y = ny at *
  go_enter Tryd.func3, Tryd.ntmps3
  go_upto_if 10 with fail
  go_cut [0] (fun s0 wx => ∃ a, s0 = .float .f64 a ∧ a < 18446744073709551616 ∧ wx = w)
  case first =>
    cases hlt : (FloatKind.f64.format.order x 0 == some .lt) with
    | true =>
      go_wp2
      go_meet
      exact ⟨_, rfl, hnx, rfl⟩
    | false =>
      go_wp2
      go_meet
      exact ⟨_, rfl, hx, rfl⟩
  case rest =>
    obtain ⟨a, ea, ha, rfl⟩ := hcut
    subst ea
    go_upto_if 14 with fail
    go_cut [1] (fun s1 wx => ∃ b, s1 = .float .f64 b ∧ b < 18446744073709551616 ∧ wx = wc)
    case first =>
      cases hlt : (FloatKind.f64.format.order y 0 == some .lt) with
      | true =>
        go_wp2
        go_meet
        exact ⟨_, rfl, hny, rfl⟩
      | false =>
        go_wp2
        go_meet
        exact ⟨_, rfl, hy, rfl⟩
    case rest =>
      obtain ⟨b, eb, hb, rfl⟩ := hcut
      subst eb
      clear hnx hny
      obtain ⟨w0, rfl⟩ : ∃ w0, w0 = wc := ⟨_, rfl⟩
      cases g1 : (FloatKind.f64.format.order a 0 == some .gt) with
      | false =>
        go_wp2
        go_ret
        exact ⟨rfl, Below.refl _ _⟩
      | true =>
        cases g2 : (FloatKind.f64.format.order a 9218868437227405311 == some .lt || FloatKind.f64.format.order a 9218868437227405311 == some .eq) with
        | false =>
          go_wp2
          go_ret
          exact ⟨rfl, Below.refl _ _⟩
        | true =>
          obtain ⟨a1, a2⟩ := Pd.pos_of ha g1 g2
          cases g3 : (FloatKind.f64.format.order b 0 == some .gt) with
          | false =>
            go_wp2
            go_ret
            exact ⟨rfl, Below.refl _ _⟩
          | true =>
            cases g4 : (FloatKind.f64.format.order b 9218868437227405311 == some .lt || FloatKind.f64.format.order b 9218868437227405311 == some .eq) with
            | false =>
              go_wp2
              go_ret
              exact ⟨rfl, Below.refl _ _⟩
            | true =>
              obtain ⟨b1, b2⟩ := Pd.pos_of hb g3 g4
              have hlaw := law_eq a1 a2 b1 b2
              have HLAW : Hid _ := hlaw
              clear hlaw
              go_wp2_with fail
              refine (zzshort_any a a1 a2 w0 hE hw).mono ?_
              rintro e w1 ⟨v1, rfl, hS1, hb1⟩
              go_wp2_with fail
              refine (zzshort_any b b1 b2 w1 (hE.below hb1) (Nat.lt_of_lt_of_le hw hb1.size)).mono ?_
              rintro e w2 ⟨v2, rfl, hS2, hb2⟩
              go_wp2_with fail
              refine (zzequal_any v1 v2 _ _ _ _ w2 (hS1.below hb2) hS2).mono ?_
              rintro e w3 ⟨rfl, hb3⟩
              rw [HLAW.out]
              go_wp2
              go_ret
              exact ⟨by simp, (hb1.trans (hb2.mono hb1.size)).trans (hb3.mono (Nat.le_trans hb1.size hb2.size))⟩
end Go.Proofs.Qxb6614922aDoor
