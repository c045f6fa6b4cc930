/-
  shortFloat.
-/
import Derived.Test.Qxb6614922aDoorW3
import Derived.Test.Qxb6614922aDoorPlain6
namespace Go.Proofs.Qxb6614922aDoor
open Go.RowKit

theorem cell_stays {w w' : World} {a : Addr} {v : Value} (h : w.cell? a = some v) (hb : Below w.heap.size w w') : w'.cell? a = some v := by
  rw [hb.cell (World.block_lt_of_cell? w a h)]; exact h
theorem below_drewN {B : Nat} {a w : World} (h : Below B a w) (n : Nat) : Below B a (w.drewN n) := ⟨h.os, h.tape, h.output, h.size, h.block⟩
theorem nmPow_at : Tryd.prog.globalNamed Tryd.nmPow = some 5 := by kernel_rfl
theorem Env.below {w w' : World} (h : Env w) (hb : Below w.heap.size w w') : Env w' := by
  refine ⟨fun i hi => ⟨cell_stays (h.pow i hi).1 hb, cell_stays (h.pow i hi).2 hb⟩, ?_⟩
  have ht := h.ten
  unfold Lib.TabIs World.var? at ht ⊢
  rw [nmPow_at] at ht ⊢
  have h5 : 5 < w.heap.size := by
    rcases Nat.lt_or_ge 5 w.heap.size with hh | hh
    · exact hh
    · exfalso
      have : w.heap[5]? = none := Array.getElem?_eq_none hh
      simp [this] at ht
  simp only [Option.bind_some] at ht ⊢
  rw [hb.block 5 h5]
  exact ht

namespace Pd
theorem ex_one {b : Nat} (h : 11 < zB b) : exB b = 1 := by
  unfold exB
  split
  · rfl
  · rename_i h0
    exfalso
    have hm : 2 ^ 52 ≤ mantB b := by unfold mantB; rw [if_neg h0]; omega
    have : 52 ≤ (mantB b).log2 := by
      rw [Nat.le_log2 (by omega)]
      exact hm
    unfold zB at h
    omega
theorem not_skew {b : Nat} (h : skewB b = false) (hz : 11 ≤ zB b) (hm : mB b = 9223372036854775808) : (exB b : Int) - 1075 - zB b ≤ -1085 := by
  by_cases h11 : zB b = 11
  · unfold mB at hm
    rw [h11] at hm ⊢
    have hmm : mantB b = 4503599627370496 := by omega
    unfold skewB at h
    rw [hmm] at h
    simp only [beq_self_eq_true, Bool.true_and] at h
    have : ¬ 1 < exB b := fun h2 => by rw [← Nat.blt_eq, h] at h2; cases h2
    omega
  · have := ex_one (b := b) (by omega)
    omega
theorem m_div {b : Nat} : mB b / 2 ^ zB b = mantB b := by
  unfold mB
  exact Nat.mul_div_cancel _ (Nat.pow_pos (by decide))
def pR (b : Nat) : Int := if (dB b).2 then -(pB b - 1) else -pB b
end Pd

theorem i64_and1 (n : Int) : bits .and .i64 n 1 = n % 2 := by
  have h1 : (BitVec.ofInt 64 1).toNat = 2 ^ 1 - 1 := by decide
  have key : (BitVec.ofInt 64 n &&& BitVec.ofInt 64 1).toNat = (n % ((2 ^ 64 : Nat) : Int)).toNat % 2 ^ 1 := by
    rw [BitVec.toNat_and, BitVec.toNat_ofInt, h1, Nat.and_two_pow_sub_one_eq_mod]
  show IntKind.i64.wrap ((BitVec.ofInt 64 n &&& BitVec.ofInt 64 1).toNat : Nat) = n % 2
  rw [key, IntKind.wrap_i64]
  omega

set_option maxHeartbeats 4000000 in
set_option maxRecDepth 100000 in
theorem short_any (b : Nat) (h1 : 1 ≤ b) (h2 : b < 9218868437227405312) (w : World) (hE : Env w) (hw : 6 < w.heap.size) :
    Calls Tryd.prog 64 #[.int .u64 (Pd.mB b : Nat), .int .i64 ((Pd.exB b : Int) - 1075 - Pd.zB b)] w fun e w' => e = .returned (.tuple #[.int .u64 ((Pd.dB b).1 : Nat), .int .i64 (Pd.pR b)]) ∧ Below w.heap.size w w' := by
  have M := Pd.met h1 h2
  obtain ⟨p1, p2, s1, s2, z1, z2, e1, e2, m1, m2, n1, n2⟩ := M
  have hmd := Pd.m_div (b := b)
  have hml := Pd.mant_lt b
  have hns := Pd.not_skew (b := b)
  have hex1 := Pd.ex_one (b := b)
  have hmx : Pd.maxB b = Pd.mB b + 2 ^ (Pd.zB b - 1) := rfl
  go_enter Tryd.func64, Tryd.ntmps64
  go_upto_region 12 with fail
  go_cut [0, 28] (fun u0 u28 wx => u0 = .int .u64 (Pd.mB b : Nat) ∧ u28 = .bool (Pd.skewB b) ∧ wx = w)
  case first =>
    cases hsk : Pd.skewB b with
    | true =>
      obtain ⟨k1, k2, _⟩ := Pd.skew_facts hsk
      have k3 := Pd.z_skew hsk
      have hm : Pd.mB b = 9223372036854775808 := by unfold Pd.mB; rw [k2, k3]
      have hz : Pd.zB b ≤ 11 := by omega
      have HS : Hid _ := hsk
      have HM : Hid _ := hm
      rw [hm]
      clear hmd hml hns hex1 hmx hm k2 k3 hsk
      go_wp2
      go_meet
      exact ⟨by rw [HM.out], by rw [HS.out, decide_eq_true (by omega)], rfl⟩
    | false =>
      have hns := hns hsk z1
      have HS : Hid _ := hsk
      clear hsk
      by_cases hm : Pd.mB b = 9223372036854775808
      · have hns := hns hm
        have HM : Hid _ := hm
        rw [hm]
        clear hmd hml hex1 hmx hm
        go_wp2
        go_meet
        exact ⟨by rw [HM.out], by rw [HS.out, decide_eq_false (by omega)], rfl⟩
      · have hq : ((Pd.mB b : Int) == 9223372036854775808) = false := by simp; omega
        clear hmd hml hex1 hmx hns
        go_wp2
        go_meet
        exact ⟨rfl, by rw [HS.out], rfl⟩
  case rest =>
    obtain ⟨e0, e28, rfl⟩ := hcut
    subst e0
    subst e28
    go_upto_if 28 with fail
    go_cut [0, 5, 8, 9, 10, 11] (fun u0 u5 u8 u9 u10 _ wx => u0 = .int .u64 (Pd.mB b : Nat) ∧ u5 = .int .i64 (Pd.pB b) ∧ u8 = .int .u64 (Pd.minB b : Nat) ∧ u9 = .int .u64 (Pd.maxB b : Nat) ∧ u10 = .int .i64 ((Pd.mantB b % 2 : Nat) : Int) ∧ wx = wc)
    case first =>
      have hand : bits .and .i64 (Pd.mantB b : Int) 1 = (Pd.mantB b : Int) % 2 := i64_and1 _
      cases hsk : Pd.skewB b with
      | true =>
        have k3 := Pd.z_skew hsk
        have hz : Pd.zB b ≤ 11 := by omega
        have HS : Hid _ := hsk
        have hM : Pd.mB b = 9223372036854775808 := by unfold Pd.mB; rw [(Pd.skew_facts hsk).2.1, k3]
        have hM1 : Pd.mB b ≤ 9223372036854775808 := by omega
        have hmi : (Pd.mB b : Int) / 2048 = Pd.mantB b := by
          rw [k3] at hmd
          omega
        have HK3 : Hid _ := k3
        clear hmd hns hex1 hmx hM k3 hsk
        go_wp2_with fail
        refine (sk_any _ wc (by omega) (by omega)).mono ?_
        rintro e w' ⟨rfl, rfl⟩
        have hskx : Pd.sk ((Pd.exB b : Int) - 1075 - Pd.zB b + 11) = - Pd.pB b := by
          unfold Pd.pB
          rw [HS.out, if_pos rfl]
          unfold Pd.pS
          rw [Int.neg_neg]
          congr 1
          omega
        rw [hskx]
        clear hskx
        go_wp2
        go_meet
        refine ⟨rfl, by simp, ?_, ?_, ?_, rfl⟩
        · congr 1
          unfold Pd.minB
          rw [HS.out, HK3.out, if_pos rfl]
          omega
        · congr 1
          unfold Pd.maxB
          rw [HK3.out]
          omega
        · congr 1
      | false =>
        have HS : Hid _ := hsk
        clear hns hsk
        have hpb : Pd.l10 ((Pd.exB b : Int) - 1075) = - Pd.pB b := by
          unfold Pd.pB
          rw [HS.out, if_neg (by simp)]
          unfold Pd.pN
          rw [Int.neg_neg]
        by_cases h11 : Pd.zB b ≤ 11
        · have k3 : Pd.zB b = 11 := by omega
          have hmi : (Pd.mB b : Int) / 2048 = Pd.mantB b := by
            rw [k3] at hmd
            omega
          have hm3 : Pd.mB b + 1024 < 18446744073709551616 := by
            unfold Pd.maxB at m2
            rw [k3] at m2
            omega
          have HK3 : Hid _ := k3
          have HPB : Hid _ := hpb
          clear hmd hex1 hmx k3 hpb
          go_wp2_with fail
          refine (l10_any _ wc (by omega) (by omega)).mono ?_
          rintro e w' ⟨rfl, rfl⟩
          rw [show (Pd.exB b : Int) - 1075 - Pd.zB b + 11 = (Pd.exB b : Int) - 1075 by omega, HPB.out]
          go_wp2
          go_meet
          refine ⟨rfl, by simp, ?_, ?_, ?_, rfl⟩
          · congr 1
            unfold Pd.minB
            rw [HS.out, HK3.out, if_neg (by simp)]
            omega
          · congr 1
            unfold Pd.maxB
            rw [HK3.out]
            omega
          · congr 1
        · have hx1 := hex1 (by omega)
          have hzz : (11 : Int) + (-1085 - ((Pd.exB b : Int) - 1075 - Pd.zB b)) = Pd.zB b := by omega
          have hzt : ((Pd.zB b : Int) - 1).toNat = Pd.zB b - 1 := by omega
          have hmi : (Pd.mB b : Int) / 2 ^ Pd.zB b = Pd.mantB b := by rw [← hmd]; simp
          obtain ⟨P, hP⟩ : ∃ P : Nat, P = 2 ^ (Pd.zB b - 1) := ⟨_, rfl⟩
          have hP1 : P ≤ 4611686018427387904 := by
            rw [hP]
            exact Nat.le_trans (Nat.pow_le_pow_right (n := 2) (by decide) (show Pd.zB b - 1 ≤ 62 by omega)) (by decide)
          have hpw : IntKind.u64.wrap ((2 : Int) ^ (Pd.zB b - 1)) = (P : Int) := by
            have e : (2 : Int) ^ (Pd.zB b - 1) = (P : Int) := by rw [hP]; simp
            rw [e, IntKind.wrap_u64]
            omega
          have hm3 : Pd.mB b + P < 18446744073709551616 := by
            unfold Pd.maxB at m2
            rw [← hP] at m2
            exact m2
          have HP : Hid _ := hP
          have HPB : Hid _ := hpb
          have hexle : Pd.exB b ≤ 1 := by omega
          clear hmd hex1 hmx hpb hP hx1
          go_wp2_with fail
          refine (l10_any _ wc (by omega) (by omega)).mono ?_
          rintro e w' ⟨rfl, rfl⟩
          rw [HPB.out]
          go_wp2
          go_meet
          refine ⟨rfl, by simp, ?_, ?_, ?_, rfl⟩
          · congr 1
            unfold Pd.minB
            rw [HS.out, if_neg (by simp), ← HP.out]
            omega
          · congr 1
            unfold Pd.maxB
            rw [← HP.out]
            omega
          · congr 1
    case rest =>
      obtain ⟨r0, r5, r8, r9, r10, rw1⟩ := hcut
      subst r0 r5 r8 r9 r10 rw1
      have hpr : Pd.pR b = if (Pd.dB b).2 then -(Pd.pB b - 1) else -Pd.pB b := rfl
      have hdb := Pd.dB_eq b
      have M : Pd.Met b := ⟨p1, p2, s1, s2, z1, z2, e1, e2, m1, m2, n1, n2⟩
      have hmM : Pd.mB b ≤ Pd.maxB b := Nat.le_add_right _ _
      obtain ⟨a1, a2, _⟩ := Pd.u_bounds M (Pd.minB b) n1 (by omega)
      obtain ⟨b1, b2, _⟩ := Pd.u_bounds M (Pd.mB b) (by omega) hmM
      obtain ⟨c1, c2, _⟩ := Pd.u_bounds M (Pd.maxB b) (by omega) (Nat.le_refl _)
      have ho : Pd.mantB b % 2 < 2 := Nat.mod_lt _ (by decide)
      have hlp : -3000 ≤ Pd.l2 (Pd.pB b) ∧ Pd.l2 (Pd.pB b) ≤ 3000 := by unfold Pd.l2; omega
      have hsb : -((Pd.exB b : Int) - 1075 - Pd.zB b + Pd.l2 (Pd.pB b) + 3) = ((Pd.sB b).toNat : Int) := by
        have : Pd.sB b = 1072 + (Pd.zB b : Int) - (Pd.exB b : Int) - Pd.l2 (Pd.pB b) := rfl
        omega
      obtain ⟨g1, g2⟩ := Pd.hi_bounds p1 p2
      obtain ⟨_, g3, g4⟩ := Pd.hilo (Pd.pB b)
      clear hmd hml hns hex1 hmx M
      unfold Pd.usp at a1 a2 b1 b2 c1 c2 hdb
      generalize Pd.mantB b % 2 = o at *
      have HSB : Hid _ := hsb
      clear hsb
      go_wp2_with fail
      refine (l2_any _ _ (by omega) (by omega)).mono ?_
      rintro e w1 ⟨rfl, hw1⟩
      rw [hw1]
      clear hw1
      have hb0 := (Below.refl wc.heap.size wc).alloc (Nat.le_refl _) (.cells #[.int .u64 0, .int .u64 0, .int .i64 0] 116)
      go_wp2_with fail
      refine (prescale_any wc.heap.size _ _ _ _ (hE.below hb0) (heap_alloc_new wc _) hw p1 p2 (by omega) (by omega) hlp.1 hlp.2).mono ?_
      rintro e w2 ⟨rfl, hS, hb2⟩
      rw [HSB.out] at hS
      have hb02 := hb0.trans hb2
      clear hb0 hb2
      go_wp2_with fail
      refine (uscale_any (Pd.minB b) wc.heap.size _ _ _ w2 hS (by omega) g1 g3 (by omega) g4).mono ?_
      rintro e w3 ⟨rfl, q3, rfl⟩
      have hS3 : Scal (w2.drewN q3) wc.heap.size (Pd.hiT (Pd.pB b)) (Pd.loT (Pd.pB b)) ((Pd.sB b).toNat : Int) := hS
      have hb03 := below_drewN hb02 q3
      generalize Pd.us (Pd.minB b) (Pd.hiT (Pd.pB b)) (Pd.loT (Pd.pB b)) (Pd.sB b).toNat = U1 at *
      generalize w2.drewN q3 = w3 at *
      clear hS hb02
      have HD : Hid _ := hdb
      have HPR : Hid _ := hpr
      clear hdb hpr
      go_wp2_with fail
      refine (nudge_up U1 o w3 (by omega) ho).mono ?_
      rintro e w4 ⟨rfl, rfl⟩
      go_wp2_with fail
      refine (ceil_any (U1 + o) w4 (by omega)).mono ?_
      rintro e w5 ⟨rfl, rfl⟩
      generalize hdm : (U1 + o + 3) / 4 = dmin at *
      have HDM : Hid _ := hdm
      have hdm2 : dmin ≤ 4611686018427387906 := by omega
      clear hdm
      go_wp2_with fail
      refine (uscale_any (Pd.maxB b) wc.heap.size _ _ _ w5 hS3 (by omega) g1 g3 (by omega) g4).mono ?_
      rintro e w6 ⟨rfl, q6, rfl⟩
      have hS6 : Scal (w5.drewN q6) wc.heap.size (Pd.hiT (Pd.pB b)) (Pd.loT (Pd.pB b)) ((Pd.sB b).toNat : Int) := hS3
      have hb06 := below_drewN hb03 q6
      generalize Pd.us (Pd.maxB b) (Pd.hiT (Pd.pB b)) (Pd.loT (Pd.pB b)) (Pd.sB b).toNat = U3 at *
      generalize w5.drewN q6 = w6 at *
      clear hS3 hb03
      go_wp2_with fail
      refine (nudge_down U3 o w6 (by omega) (by omega) ho).mono ?_
      rintro e w7 ⟨rfl, rfl⟩
      go_wp2_with fail
      refine (floor_any (U3 - o) w7 (by omega)).mono ?_
      rintro e w8 ⟨rfl, rfl⟩
      generalize hdx : (U3 - o) / 4 = dmax at *
      have HDX : Hid _ := hdx
      have hdx2 : dmax ≤ 4611686018427387906 := by omega
      clear hdx
      by_cases q1 : dmin ≤ dmax / 10 * 10
      · have hres : (Pd.dB b).1 = dmax / 10 ∧ Pd.pR b = -(Pd.pB b - 1) := by
          have e := HD.out
          unfold Pd.pick at e
          rw [HDM.out, HDX.out, if_pos q1] at e
          rw [HPR.out, e]
          exact ⟨rfl, rfl⟩
        have HRES : Hid _ := hres
        clear hres
        go_wp2
        go_ret2
        exact ⟨by rw [HRES.out.1, HRES.out.2]; simp, hb06⟩
      · by_cases q2 : dmin < dmax
        · go_wp2_with fail
          refine (uscale_any (Pd.mB b) wc.heap.size _ _ _ w8 hS6 (by omega) g1 g3 (by omega) g4).mono ?_
          rintro e w9 ⟨rfl, q9, rfl⟩
          have hb09 := below_drewN hb06 q9
          generalize Pd.us (Pd.mB b) (Pd.hiT (Pd.pB b)) (Pd.loT (Pd.pB b)) (Pd.sB b).toNat = U2 at *
          generalize w8.drewN q9 = w9 at *
          go_wp2_with fail
          refine (round_any U2 w9 (by omega)).mono ?_
          rintro e w10 ⟨rfl, rfl⟩
          have hres : (Pd.dB b).1 = (U2 + 1 + U2 / 4 % 2) / 4 ∧ Pd.pR b = -Pd.pB b := by
            have e := HD.out
            unfold Pd.pick at e
            rw [HDM.out, HDX.out, if_neg q1, if_pos q2] at e
            rw [HPR.out, e]
            exact ⟨rfl, rfl⟩
          rw [← hres.1]
          have HRES : Hid _ := hres
          clear hres
          go_wp2
          go_ret2
          exact ⟨by rw [HRES.out.2]; rfl, hb09⟩
        · have hres : (Pd.dB b).1 = dmin ∧ Pd.pR b = -Pd.pB b := by
            have e := HD.out
            unfold Pd.pick at e
            rw [HDM.out, HDX.out, if_neg q1, if_neg q2] at e
            rw [HPR.out, e]
            exact ⟨rfl, rfl⟩
          have HRES : Hid _ := hres
          clear hres
          go_wp2
          go_ret2
          exact ⟨by rw [HRES.out.1, HRES.out.2]; rfl, hb06⟩
end Go.Proofs.Qxb6614922aDoor
