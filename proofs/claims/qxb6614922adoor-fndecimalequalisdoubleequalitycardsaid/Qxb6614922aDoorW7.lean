/-
  ftoa64.
-/
import Derived.Test.Qxb6614922aDoorW6
import Derived.BigQuiet
namespace Go.Proofs.Qxb6614922aDoor
open Go.RowKit

theorem bitLen_log2 (x : Nat) (h : 1 ≤ x) (h2 : x < 18446744073709551616) : Lib.bitLen x = x.log2 + 1 := by
  have a := Nat.log2_self_le (n := x) (by omega)
  have b := Nat.lt_log2_self (n := x)
  rw [Lib.bitLen_shift x.log2 x a h2]
  have : x / 2 ^ x.log2 = 1 := by
    have hp : 0 < 2 ^ x.log2 := Nat.pow_pos (by decide)
    rw [Nat.pow_succ] at b
    apply Nat.div_eq_of_lt_le <;> omega
  rw [this]
  rfl

theorem i64_and2047 (n : Nat) (h : n < 2048) : bits .and .i64 (n : Int) 2047 = (n : Int) := by
  have h1 : (BitVec.ofInt 64 2047).toNat = 2 ^ 11 - 1 := by decide
  have key : (BitVec.ofInt 64 (n : Int) &&& BitVec.ofInt 64 2047).toNat = ((n : Int) % ((2 ^ 64 : Nat) : Int)).toNat % 2 ^ 11 := by
    rw [BitVec.toNat_and, BitVec.toNat_ofInt, h1, Nat.and_two_pow_sub_one_eq_mod]
  show IntKind.i64.wrap ((BitVec.ofInt 64 (n : Int) &&& BitVec.ofInt 64 2047).toNat : Nat) = n
  rw [key, IntKind.wrap_i64]
  omega
theorem u64_and52 (n : Nat) (h : n < 18446744073709551616) : bits .and .u64 (n : Int) 4503599627370495 = ((n % 4503599627370496 : Nat) : Int) := by
  have := and_u64 n 4503599627370495 h (by decide)
  rw [show n &&& 4503599627370495 = n % 4503599627370496 from Nat.and_two_pow_sub_one_eq_mod n 52] at this
  exact this
theorem u64_or52 (n : Nat) (h : n < 4503599627370496) : bits .or .u64 (n : Int) 4503599627370496 = ((n + 4503599627370496 : Nat) : Int) := by
  have := or_u64 n 4503599627370496 (by omega) (by decide)
  have e : n ||| 4503599627370496 = n + 4503599627370496 := by
    have := Nat.two_pow_add_eq_or_of_lt (i := 52) h 1
    rw [Nat.mul_one, show (2 : Nat) ^ 52 = 4503599627370496 from rfl] at this
    rw [Nat.or_comm, ← this]
    omega
  rw [e] at this
  exact this

namespace Pd
theorem head_dec : ∀ (n u : Nat), u < n → 1 ≤ u → ∃ x l, Lib.decDigits u = x :: l ∧ x ≠ 48
  | 0, u, h, _ => by omega
  | n + 1, u, h, h1 => by
    unfold Lib.decDigits
    by_cases h10 : u < 10
    · rw [dif_pos h10]
      refine ⟨_, _, rfl, fun e => ?_⟩
      have := congrArg UInt8.toNat e
      simp at this
      omega
    · rw [dif_neg h10]
      obtain ⟨x, l, e, hx⟩ := head_dec n (u / 10) (by omega) (by omega)
      rw [e]
      exact ⟨x, _, rfl, hx⟩
theorem stripLen_pos (x : UInt8) (l : List UInt8) (hx : x ≠ 48) : ∀ n, 1 ≤ n → 1 ≤ stripLen (x :: l) n
  | 0, h => by omega
  | n + 1, _ => by
    unfold stripLen
    split
    · rename_i h
      cases n with
      | zero => simp at h; exact absurd h hx
      | succ n => exact stripLen_pos x l hx (n + 1) (by omega)
    · omega
theorem digs_len {d : Nat} (h1 : 1 ≤ d) (h2 : d ≤ 4611686018427387904) : (digs d).length = stripLen (Lib.decDigits d) (Lib.nDigits d) ∧ 1 ≤ (digs d).length ∧ (digs d).length ≤ 20 := by
  have hn := Lib.nDigits_le20 d (by omega)
  have hn1 := Lib.nDigits_pos d
  have hl := Lib.decDigits_length d
  have hs := stripLen_le (Lib.decDigits d) (Lib.nDigits d)
  have e : (digs d).length = stripLen (Lib.decDigits d) (Lib.nDigits d) := by
    unfold digs
    rw [List.length_take]
    omega
  refine ⟨e, ?_, by omega⟩
  obtain ⟨x, l, e2, hx⟩ := head_dec (d + 1) d (by omega) h1
  rw [e, e2]
  exact stripLen_pos x l hx _ hn1
end Pd

theorem Own.base {B B' : Nat} {w : World} {v : Value} {L : List UInt8} (h : Own B w v L) (hB : B' ≤ B) : Own B' w v L := by
  refine ⟨h.1, ?_⟩
  rcases h.2 with h | ⟨g, cap, cur, e, hb, r⟩
  · exact .inl h
  · exact .inr ⟨g, cap, cur, e, by omega, r⟩

theorem bits_run (b : Nat) (w : World) : (callFunc 51 #[.float .f64 b]).run Tryd.prog w = .ok (.value (.int .u64 (b : Int))) w := by
  rw [run_callFunc_extern Tryd.func51 (by kernel_rfl) (by kernel_rfl) (by kernel_rfl) (e := Extern.MathFloatBits.float64bits) (by kernel_rfl)]
  rfl

set_option maxHeartbeats 4000000 in
set_option maxRecDepth 100000 in
theorem ftoa_any (b : Nat) (h1 : 1 ≤ b) (h2 : b < 9218868437227405312) (w : World) (hE : Env w) (hw : 6 < w.heap.size) :
    Calls Tryd.prog 41 #[.slice none 0 0, .float .f64 b, .int .u8 101, .int .i64 (-1)] w fun e w' => ∃ v, e = .returned v ∧ Own w.heap.size w' v (Pd.txt (Pd.digs (Pd.dB b).1) ((Lib.nDigits (Pd.dB b).1 : Int) + Pd.pR b)) ∧ Below w.heap.size w w' := by
  have hbr := bits_run b
  have a1 := u64_and52 b (by omega)
  have hs63 : (b : Int) / 9223372036854775808 = 0 := by omega
  obtain ⟨EXv, hEX⟩ : ∃ n, n = Pd.EX b := ⟨_, rfl⟩
  have hEX2 : (b : Int) / 4503599627370496 = EXv := by rw [hEX]; unfold Pd.EX; omega
  have hEX3 : EXv < 2047 := by rw [hEX]; unfold Pd.EX; omega
  have a2 := i64_and2047 EXv (by omega)
  obtain ⟨FRv, hFR⟩ : ∃ n, n = Pd.FR b := ⟨_, rfl⟩
  have hFR2 : b % 4503599627370496 = FRv := by rw [hFR]; rfl
  have hFR3 : FRv < 4503599627370496 := by rw [hFR]; exact Nat.mod_lt _ (by decide)
  rw [hFR2] at a1
  clear hFR2
  have HEX : Hid _ := hEX
  have HFR : Hid _ := hFR
  clear hEX hFR
  go_enter Tryd.func41, Tryd.ntmps41
  go_wp2_with fail
  go_quiet (fail)
  go_upto_if 78 with fail
  go_cut [14, 15] (fun s14 s15 wx => s14 = .int .i64 (Pd.exB b : Nat) ∧ s15 = .int .u64 (Pd.mantB b : Nat) ∧ ∃ q, wx = w.drewN q)
  case first =>
    by_cases h0 : EXv = 0
    · have he : Pd.exB b = 1 := by unfold Pd.exB; rw [← HEX.out, if_pos h0]
      have hm : Pd.mantB b = FRv := by unfold Pd.mantB; rw [← HEX.out, if_pos h0, HFR.out]
      have HE1 : Hid _ := he
      have HM1 : Hid _ := hm
      clear he hm HEX HFR
      subst h0
      go_wp2
      go_meet
      exact ⟨by rw [HE1.out]; rfl, by rw [HM1.out], _, rfl⟩
    · have he : Pd.exB b = EXv := by unfold Pd.exB; rw [← HEX.out, if_neg h0]
      have hm : Pd.mantB b = FRv + 4503599627370496 := by unfold Pd.mantB; rw [← HEX.out, if_neg h0, HFR.out]
      have hor := u64_or52 FRv hFR3
      have hq : ((EXv : Int) == 0) = false := by simp; omega
      have HE1 : Hid _ := he
      have HM1 : Hid _ := hm
      clear he hm HEX HFR h0
      go_wp2
      go_meet
      exact ⟨by rw [HE1.out], by rw [HM1.out]; simp, _, rfl⟩
  case rest =>
    obtain ⟨r14, r15, q, rq⟩ := hcut
    subst r14 r15 rq
    have M := Pd.met h1 h2
    obtain ⟨p1, p2, s1, s2, z1, z2, e1, e2, m1, m2, n1, n2⟩ := M
    have hmp := Pd.mant_pos h1
    have hml := Pd.mant_lt b
    have hbl : Lib.bitLen (Pd.mantB b) = 64 - Pd.zB b := by
      rw [bitLen_log2 _ hmp (by omega)]
      have : Pd.zB b = 63 - (Pd.mantB b).log2 := rfl
      omega
    have hmw : IntKind.u64.wrap ((Pd.mantB b : Int) * 2 ^ Pd.zB b) = (Pd.mB b : Int) := by
      have e : (Pd.mantB b : Int) * 2 ^ Pd.zB b = (Pd.mB b : Int) := by unfold Pd.mB; simp
      have : Pd.mB b ≤ Pd.maxB b := Nat.le_add_right _ _
      rw [e, IntKind.wrap_u64]
      omega
    have hm0 : ((Pd.mantB b : Int) == 0) = false := by simp; omega
    clear hbr a1 a2 hs63 hEX2 hFR3 HEX HFR hEX3
    have hEq : Env (w.drewN q) := hE.below (below_drewN (Below.refl _ w) q)
    go_wp2_with fail
    refine (Tryd.bits_Len64 _ _ (by omega) (by omega)).mono ?_
    rintro e w1 ⟨rfl, hw1⟩
    rw [hw1, Int.toNat_natCast, hbl]
    clear hw1
    have hz64 : (64 : Int) - ((64 - Pd.zB b : Nat) : Int) = Pd.zB b := by omega
    go_wp2_with fail
    rw [show (Pd.exB b : Int) + -1023 - Pd.zB b - 52 = (Pd.exB b : Int) - 1075 - Pd.zB b by omega]
    have hbA := below_drewN (Below.refl w.heap.size w) q
    refine (short_any b h1 h2 _ (hE.below (hbA.alloc (Nat.le_refl _) _)) (by simp; omega)).mono ?_
    rintro e w2 ⟨rfl, hb2⟩
    have hR2 := (Row.new (w.drewN q) (List.replicate 32 (.int .u8 0)) 91).below hb2 (by simp)
    have hb02 : Below w.heap.size w w2 := (hbA.alloc (Nat.le_refl _) _).trans (hb2.mono (by simp))
    have hR2 : Row w2 w.heap.size 91 (List.replicate 32 (.int .u8 0)) := hR2
    have hE2 := hE.below hb02
    obtain ⟨d1, d2⟩ := Pd.d_bounds h1 h2
    have hpr : -350 ≤ Pd.pR b ∧ Pd.pR b ≤ 350 := by unfold Pd.pR; split <;> omega
    have hz2 : w.heap.size < w2.heap.size := hR2.lt
    obtain ⟨g1, g2, g3⟩ := Pd.digs_len d1 d2
    have HR2 : Hid (Row w2 w.heap.size 91 (List.replicate 32 (.int .u8 0))) := hR2
    clear hb2 hR2 hbl hmw hm0 hz64 hEq hbA
    generalize hq1 : (Pd.dB b).1 = d at *
    generalize hq2 : Pd.pR b = pr at *
    have HQ1 : Hid _ := hq1
    have HQ2 : Hid _ := hq2
    clear hq1 hq2
    have hnd := Lib.nDigits_le20 d (by omega)
    have HD : Hid (Pd.digs d = (Lib.decDigits d).take (Pd.stripLen (Lib.decDigits d) (Lib.nDigits d))) := rfl
    go_wp2_with fail
    go_region_law (first
      | (refine step_call rfl 58 #[.int .u64 d] ?_ (Tryd.internal_strconv_numDigits d d1 (by omega) _ ?_) ?_
         · go_simp
         · exact Env.ten (Env.below hE2 (below_drewN (Below.refl _ _) 1))
         rintro e w3 ⟨rfl, hw3⟩
         subst hw3
         refine ⟨_, rfl, ?_⟩)
      | (refine step_call rfl 57 #[.slice (some ⟨w.heap.size, 0, none⟩) 32 32, .int .u64 d, .int .i64 pr, .int .i64 (Lib.nDigits d : Nat)] ?_ (setDigits_any w.heap.size d pr 91 _ ?_ d1 d2 (by omega) (by omega)) ?_
         · go_simp
         · exact Hid.out HR2
         rintro e w4 ⟨rfl, hD4, hb4⟩
         refine ⟨_, rfl, ?_⟩))
    all_goals
      have hb04 : Below w.heap.size w w4 := (below_drewN hb02 1).trans hb4
      have hT : Dig w4 w.heap.size (Pd.digs d) := by rw [HD.out]; exact hD4.take _
      have hz4 : w.heap.size < w4.heap.size := Nat.lt_of_lt_of_le hz2 hb4.size
      rw [← g1]
      have hdp : -390 ≤ (Lib.nDigits d : Int) + pr ∧ (Lib.nDigits d : Int) + pr ≤ 390 := by omega
      generalize hq3 : Pd.digs d = T at *
      have HQ3 : Hid _ := hq3
      clear hq3
      clear g1 HD hb4 hD4
      generalize hq4 : (Lib.nDigits d : Int) + pr = dp at *
      have HQ4 : Hid _ := hq4
      clear hq4
      have hmx : max ((T.length : Int) - 1) 0 = (T.length : Int) - 1 := by omega
      go_upto_region 42 with fail
      go_wp2_with fail
      refine (fmtE_any w.heap.size T dp w4 hT hz4 g2 g3 hdp.1 hdp.2).mono ?_
      rintro e w5 ⟨v5, rfl, hO5, hb5⟩
      go_wp2
      go_ret
      exact ⟨v5, rfl, by rw [HQ1.out, HQ2.out, HQ3.out, HQ4.out]; exact Own.base hO5 (Nat.le_of_lt hz4), hb04.trans (hb5.mono (Nat.le_of_lt hz4))⟩
end Go.Proofs.Qxb6614922aDoor
