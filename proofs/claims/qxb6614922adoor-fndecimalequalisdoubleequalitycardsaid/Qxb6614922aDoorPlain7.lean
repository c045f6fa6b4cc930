/-
  The digits and the point tell what shortFloat picked; so they tell doubles apart.
-/
import Derived.Test.Qxb6614922aDoorW5
namespace Go.Proofs.Qxb6614922aDoor
namespace Pd
open Go
set_option exponentiation.threshold 5000

/-- the number that digits spell -/
def nv (l : List UInt8) : Nat := l.foldl (fun a x => a * 10 + (x.toNat - 48)) 0
theorem nv_snoc (l : List UInt8) (x : UInt8) : nv (l ++ [x]) = nv l * 10 + (x.toNat - 48) := by
  unfold nv
  rw [List.foldl_append]
  rfl
theorem nv_dec : ∀ (n u : Nat), u < n → nv (Lib.decDigits u) = u
  | 0, u, h => by omega
  | n + 1, u, h => by
    unfold Lib.decDigits
    by_cases h10 : u < 10
    · rw [dif_pos h10]
      show 0 * 10 + ((UInt8.ofNat (48 + u)).toNat - 48) = u
      simp
      omega
    · rw [dif_neg h10, nv_snoc, nv_dec n (u / 10) (by omega)]
      simp
      omega
theorem nv_strip (Ds : List UInt8) : ∀ n, n ≤ Ds.length → nv (Ds.take n) = nv (Ds.take (stripLen Ds n)) * 10 ^ (n - stripLen Ds n)
  | 0, _ => by simp [stripLen]
  | n + 1, h => by
    have hle := stripLen_le Ds n
    unfold stripLen
    split
    · rename_i h48
      have hg : Ds[n]'(by omega) = 48 := by
        have : Ds.getD n 0 = Ds[n]'(by omega) := by simp [List.getD, List.getElem?_eq_getElem (show n < Ds.length by omega)]
        rw [← this]; exact h48
      rw [List.take_succ_eq_append_getElem (by omega), nv_snoc, hg, nv_strip Ds n (by omega)]
      rw [show n + 1 - stripLen Ds n = (n - stripLen Ds n) + 1 by omega, Nat.pow_succ]
      show _ * 10 + (48 - 48) = _
      rw [Nat.mul_assoc]
      omega
    · simp
theorem digs_nv (d : Nat) : d = nv (digs d) * 10 ^ (Lib.nDigits d - (digs d).length) := by
  have hl := Lib.decDigits_length d
  have hs := stripLen_le (Lib.decDigits d) (Lib.nDigits d)
  have e : (digs d).length = stripLen (Lib.decDigits d) (Lib.nDigits d) := by
    unfold digs
    rw [List.length_take]
    omega
  have h := nv_strip (Lib.decDigits d) (Lib.nDigits d) (by omega)
  rw [List.take_of_length_le (by omega), nv_dec (d + 1) d (by omega)] at h
  rw [e]
  exact h

/-- the point that stands beside the digits -/
def ptB (b : Nat) : Int := (Lib.nDigits (dB b).1 : Int) + pR b

theorem scaled_digs {b : Nat} (M : Met b) : scaled (dB b) (pB b) = nv (digs (dB b).1) * 10 ^ (400 + ptB b - (digs (dB b).1).length).toNat := by
  have hd := digs_nv (dB b).1
  have hle : (digs (dB b).1).length ≤ Lib.nDigits (dB b).1 := by
    have hs := stripLen_le (Lib.decDigits (dB b).1) (Lib.nDigits (dB b).1)
    unfold digs
    rw [List.length_take]
    omega
  have p1 := M.p1
  have p2 := M.p2
  unfold scaled pickV ptB pR
  generalize digs (dB b).1 = T at *
  generalize Lib.nDigits (dB b).1 = N at *
  cases h : (dB b).2 with
  | false =>
    simp only [Bool.false_eq_true, if_false]
    rw [hd, Nat.mul_assoc, ← Nat.pow_add]
    congr 2
    omega
  | true =>
    simp only [if_true]
    rw [hd, Nat.mul_assoc, Nat.mul_assoc, show 10 * 10 ^ (400 - pB b).toNat = 10 ^ ((400 - pB b).toNat + 1) by rw [Nat.pow_succ, Nat.mul_comm], ← Nat.pow_add]
    congr 2
    omega

/-- THE SHORTEST DECIMALS TELL DOUBLES APART. -/
theorem decimal_tells {a b : Nat} (ha : 1 ≤ a) (ha2 : a < 9218868437227405312) (hb : 1 ≤ b) (hb2 : b < 9218868437227405312) (e1 : digs (dB a).1 = digs (dB b).1) (e2 : ptB a = ptB b) : a = b := by
  refine tells ha ha2 hb hb2 ?_
  rw [scaled_digs (met ha ha2), scaled_digs (met hb hb2), e1, e2]

end Pd
end Go.Proofs.Qxb6614922aDoor
