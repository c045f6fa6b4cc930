/-
  prescale and uscale.
-/
import Derived.Test.Qxb6614922aDoorW1
import Derived.Test.Qxb6614922aDoorShelf
import Derived.Deep.RegionLaw
import Derived.Deep.Cut
import Derived.Deep.CutRange
import Derived.Deep.DeepCutAuto
namespace Go.Proofs.Qxb6614922aDoor
open Go.RowKit

theorem i64_and63 (n : Int) : bits .and .i64 n 63 = n % 64 := by
  have h63 : (BitVec.ofInt 64 63).toNat = 2 ^ 6 - 1 := by decide
  have key : (BitVec.ofInt 64 n &&& BitVec.ofInt 64 63).toNat = (n % ((2 ^ 64 : Nat) : Int)).toNat % 2 ^ 6 := by
    rw [BitVec.toNat_and, BitVec.toNat_ofInt, h63, Nat.and_two_pow_sub_one_eq_mod]
  show IntKind.i64.wrap ((BitVec.ofInt 64 n &&& BitVec.ofInt 64 63).toNat : Nat) = n % 64
  rw [key, IntKind.wrap_i64]
  omega

/-- a call of a Go function at a step of a region that draws, by its contract -/
theorem step_call {P : Program} {ops : Array Oper} {o : Oper} {a : Act} {w : World} {K : Act → World → Prop} {Q : Exit → Act → World → Prop} {E : Prop}
    (hg : o.guard = none) (f : FuncId) (args : Array Value) (hrun : (execOp a.eval o).run P w = .ok (.enter f args) w) {Post : Ending → World → Prop} (hc : Calls P f args w Post)
    (h : ∀ e w', Post e w' → ∃ v, e = .returned v ∧ K (a.put o.dst v) w') :
    if Region.wanted o (yielded ops a.tmps) = true then Oper.wp P o a w K Q else E := by
  have hw : Region.wanted o (yielded ops a.tmps) = true := by simp [Region.wanted, hg]
  rw [if_pos hw]
  unfold Oper.wp
  rw [hrun, Oper.upon_enter]
  refine hc.mono fun e w' hp => ?_
  obtain ⟨v, rfl, hk⟩ := h e w' hp
  exact hk

/-- a scaler of the call's own: three cells -/
def Scal (w : World) (g : Nat) (a b : Nat) (s : Int) : Prop := w.heap[g]? = some (.cells #[.int .u64 a, .int .u64 b, .int .i64 s] 116 (0, 0))

theorem Scal.c0 {w : World} {g a b : Nat} {s : Int} (h : Scal w g a b s) : w.cell? ⟨g, 0, none⟩ = some (.int .u64 a) := by
  unfold Scal at h
  simp [World.cell?, h]
theorem Scal.c1 {w : World} {g a b : Nat} {s : Int} (h : Scal w g a b s) : w.cell? ⟨g, 1, none⟩ = some (.int .u64 b) := by
  unfold Scal at h
  simp [World.cell?, h]
theorem Scal.c2 {w : World} {g a b : Nat} {s : Int} (h : Scal w g a b s) : w.cell? ⟨g, 2, none⟩ = some (.int .i64 s) := by
  unfold Scal at h
  simp [World.cell?, h]

set_option maxHeartbeats 2000000 in
set_option maxRecDepth 100000 in
theorem uscale_any (x g a b s : Nat) (w : World) (hS : Scal w g a b s) (hx : x < 18446744073709551616) (ha : a < 18446744073709551616) (hb : b < 18446744073709551616) (hs : s < 64) (ha1 : 1 ≤ a) :
    Calls Tryd.prog 76 #[.int .u64 x, .pointer (some ⟨g, 0, none⟩)] w fun e w' => e = .returned (.int .u64 ((Pd.us x a b s : Nat) : Int)) ∧ ∃ q, w' = w.drewN q := by
  have c0 := hS.c0
  have c1 := hS.c1
  have c2 := hS.c2
  have h63 : bits .and .i64 (s : Int) 63 = (s : Int) := by rw [i64_and63]; omega
  go_enter Tryd.func76, Tryd.ntmps76
  go_wp2_with fail
  refine (Tryd.bits_Mul64 x a hx ha w).mono ?_
  rintro e w' ⟨rfl, rfl⟩
  have hU : Pd.us x a b s = if x * a / 18446744073709551616 / 2 ^ s * 2 ^ s ≠ x * a / 18446744073709551616 then (x * a / 18446744073709551616 / 2 ^ s) ||| 1
    else ((x * a / 18446744073709551616 - (if x * a % 18446744073709551616 < x * b / 18446744073709551616 then 1 else 0)) / 2 ^ s) ||| (if (x * a % 18446744073709551616 + 18446744073709551616 - x * b / 18446744073709551616) % 18446744073709551616 > 1 then 1 else 0) := rfl
  have hHl : x * a / 18446744073709551616 < 18446744073709551616 := by
    have : x * a < 18446744073709551616 * 18446744073709551616 := Nat.mul_lt_mul'' hx ha
    omega
  have hml : x * a % 18446744073709551616 < 18446744073709551616 := Nat.mod_lt _ (by decide)
  have hHm : x * a / 18446744073709551616 = 0 → x * b / 18446744073709551616 ≤ x * a % 18446744073709551616 := by
    have h1 : x * b ≤ x * 18446744073709551616 := Nat.mul_le_mul_left _ (by omega)
    have h2 : x * 1 ≤ x * a := Nat.mul_le_mul_left _ ha1
    omega
  generalize x * a / 18446744073709551616 = H at *
  generalize x * a % 18446744073709551616 = m at *
  have hd : (H : Int) / 2 ^ s = ((H / 2 ^ s : Nat) : Int) := by simp
  have hle : H / 2 ^ s * 2 ^ s ≤ H := Nat.div_mul_le_self _ _
  have hle2 : H / 2 ^ s ≤ H := Nat.div_le_self _ _
  have hw : IntKind.u64.wrap (((H / 2 ^ s : Nat) : Int) * 2 ^ s) = ((H / 2 ^ s * 2 ^ s : Nat) : Int) := by
    have e : ((H / 2 ^ s : Nat) : Int) * 2 ^ s = ((H / 2 ^ s * 2 ^ s : Nat) : Int) := by simp
    rw [e, IntKind.wrap_u64]
    omega
  generalize H / 2 ^ s = t at hd hle hle2 hw hU
  generalize t * 2 ^ s = v at hle hw hU
  have hor := or_u64 t 1 (by omega) (by decide)
  have HU : Hid _ := hU
  clear hU
  by_cases hz : v = H
  · have hzi : (v : Int) = (H : Int) := by omega
    go_wp2_with fail
    refine (Tryd.bits_Mul64 x b hx hb w').mono ?_
    rintro e w'' ⟨rfl, rfl⟩
    have hml2 : x * b / 18446744073709551616 < 18446744073709551616 := by
      have : x * b < 18446744073709551616 * 18446744073709551616 := Nat.mul_lt_mul'' hx hb
      omega
    have hl3 : x * b % 18446744073709551616 < 18446744073709551616 := Nat.mod_lt _ (by decide)
    generalize x * b / 18446744073709551616 = m2 at *
    generalize x * b % 18446744073709551616 = l2 at *
    go_wp2_with fail
    refine (b2u_any (decide (m < m2)) w'').mono ?_
    rintro e w3 ⟨rfl, rfl⟩
    have hbw : ((if decide (m < m2) = true then 1 else 0 : Nat)) = if m < m2 then 1 else 0 := by simp
    rw [hbw]
    have hb1 : (if m < m2 then 1 else 0) ≤ H ∧ (if m < m2 then 1 else 0) ≤ 1 := by
      split
      · have : H ≠ 0 := fun h => by have := hHm h; omega
        omega
      · omega
    generalize (if m < m2 then 1 else 0) = bw at *
    obtain ⟨H2, hH2⟩ : ∃ H2, H2 = H - bw := ⟨_, rfl⟩
    rw [← hH2] at HU
    have hH3 : (H : Int) - bw = H2 := by omega
    have hd2 : (H2 : Int) / 2 ^ s = ((H2 / 2 ^ s : Nat) : Int) := by simp
    have hle4 : H2 / 2 ^ s ≤ H2 := Nat.div_le_self _ _
    generalize H2 / 2 ^ s = t2 at *
    obtain ⟨dd, hdd⟩ : ∃ dd, dd = (m + 18446744073709551616 - m2) % 18446744073709551616 := ⟨_, rfl⟩
    rw [← hdd] at HU
    have hwd : IntKind.u64.wrap ((m : Int) - m2) = (dd : Int) := by rw [IntKind.wrap_u64]; omega
    clear hdd
    by_cases hdd1 : dd > 1
    · have HU2 : Hid (Pd.us x a b s = t2 ||| 1) := by
        have e := HU.out
        rw [if_neg (by simp [hz]), if_pos hdd1] at e
        exact e
      have hor2 := or_u64 t2 1 (by omega) (by decide)
      have hi1 : (1 : Int) < dd := by omega
      clear HU hdd1 hH2
      go_wp2_with fail
      go_region_law (first
        | (refine step_call rfl 96 #[.bool true] ?_ (b2u_any _ _) ?_
           · go_simp
           rintro e w6 ⟨rfl, rfl⟩
           refine ⟨_, rfl, ?_⟩))
      all_goals
        go_wp2
        go_ret
        exact ⟨ret_u (by rw [HU2.out]; exact hor2), _, rfl⟩
    · have HU2 : Hid (Pd.us x a b s = t2 ||| 0) := by
        have e := HU.out
        rw [if_neg (by simp [hz]), if_neg hdd1] at e
        exact e
      have hor2 := or_u64 t2 0 (by omega) (by decide)
      have hi1 : ¬ (1 : Int) < dd := by omega
      clear HU hdd1 hH2
      go_wp2_with fail
      go_region_law (first
        | (refine step_call rfl 96 #[.bool false] ?_ (b2u_any _ _) ?_
           · go_simp
           rintro e w6 ⟨rfl, rfl⟩
           refine ⟨_, rfl, ?_⟩))
      all_goals
        go_wp2
        go_ret
        exact ⟨ret_u (by rw [HU2.out]; exact hor2), _, rfl⟩
  · have hzi : ¬ (v : Int) = (H : Int) := by omega
    go_wp2
    go_ret
    exact ⟨ret_u (by have e := HU.out; rw [if_pos hz] at e; rw [e]; exact hor), 0, rfl⟩
end Go.Proofs.Qxb6614922aDoor
