/-
  setDigits.
-/
import Derived.Test.Qxb6614922aDoorW4
import Derived.Lib.ItoaMem
import Derived.Lib.ItoaLen
import Derived.Deep.LoopGhost
namespace Go.Proofs.Qxb6614922aDoor
open Go.RowKit Go.Sort

/-- a row of 32 bytes that begins with these digits -/
def Dig (w : World) (g : Nat) (Ds : List UInt8) : Prop := ∃ (t : TypeId) (vs : List Value), vs.length = 32 ∧ Row w g t vs ∧ ∀ (j : Nat) x, Ds[j]? = some x → vs[j]? = some (.int .u8 (x.toNat : Int))
theorem Dig.cell {w : World} {g : Nat} {Ds : List UInt8} (h : Dig w g Ds) (j : Nat) (x : UInt8) (hx : Ds[j]? = some x) : w.cell? ⟨g, j, none⟩ = some (.int .u8 (x.toNat : Int)) := by
  obtain ⟨_, vs, _, hR, hc⟩ := h
  exact hR.cell j _ (hc j x hx)
theorem Dig.take {w : World} {g : Nat} {Ds : List UInt8} (h : Dig w g Ds) (k : Nat) : Dig w g (Ds.take k) := by
  obtain ⟨t, vs, h1, hR, hc⟩ := h
  refine ⟨t, vs, h1, hR, fun j x hx => ?_⟩
  rw [List.getElem?_take] at hx
  split at hx
  · exact hc j x hx
  · cases hx
theorem Dig.below {w w' : World} {g B : Nat} {Ds : List UInt8} (h : Dig w g Ds) (hb : Below B w w') (hg : g < B) : Dig w' g Ds := by
  obtain ⟨t, vs, h1, hR, hc⟩ := h
  exact ⟨t, vs, h1, hR.below hb hg, hc⟩

theorem decD_at (d j : Nat) (dk : Array UInt8) (v' : Nat) (h : Lib.FmtInv (Lib.nDigits d) d 0 v' dk) (x : UInt8) (hx : (Lib.decDigits d)[j]? = some x) : j < dk.size ∧ dk[j]! = x := by
  obtain ⟨hj, e⟩ := List.getElem?_eq_some_iff.1 hx
  refine ⟨by rw [h.size]; rw [Lib.decDigits_length] at hj; exact hj, ?_⟩
  rw [← Lib.row_is_numeral h j hj, e]

theorem fmt10_any (g d : Nat) (t : TypeId) (w : World) (hR : Row w g t (List.replicate 32 (.int .u8 0))) (h1 : 1 ≤ d) (h2 : d ≤ 4611686018427387904) :
    Calls Tryd.prog 81 #[.slice (some ⟨g, 0, none⟩) (Lib.nDigits d) 32, .int .u64 d] w fun e w' => e = .returned (.tuple #[]) ∧ Dig w' g (Lib.decDigits d) ∧ Below g w w' := by
  have hn := Lib.nDigits_le20 d (by omega)
  have hH : Holds (fun (b : UInt8) => Value.int .u8 (b.toNat : Int)) w g 0 (Array.replicate (Lib.nDigits d) (0 : UInt8)) := fun j hj => by
    have hj' : j < Lib.nDigits d := by simpa using hj
    rw [Nat.zero_add]
    refine ⟨?_, hR.free j⟩
    rw [hR.cell j (.int .u8 0) (by rw [List.getElem?_replicate, if_pos (by omega)]), getElem!_pos _ j hj]
    simp
  have hc := Tryd.internal_strconv_formatBase10 g 0 32 d (Array.replicate (Lib.nDigits d) (0 : UInt8)) w hH (by simpa using Lib.lt_pow_nDigits d) (by omega) (by simp; omega)
  simp only [Array.size_replicate] at hc
  refine hc.mono ?_
  rintro e w' ⟨rfl, n, v', dk, rfl, hF⟩
  refine ⟨rfl, ?_, ?_⟩
  · refine ⟨t, (putCells (fun (b : UInt8) => Value.int .u8 (b.toNat : Int)) 0 dk (List.replicate 32 (Value.int .u8 0)).toArray).toList, by simp [putCells], ?_, ?_⟩
    · unfold Row at hR ⊢
      show (w.heap.modify g _)[g]? = _
      rw [Array.getElem?_modify, if_pos rfl, hR]
      simp [onCells]
    · intro j x hx
      obtain ⟨hj, e⟩ := decD_at d j dk v' hF x hx
      have hs := hF.size
      unfold putCells
      simp only [Array.toList_mapIdx, List.getElem?_mapIdx]
      rw [List.getElem?_replicate, if_pos (by omega)]
      rw [getElem!_pos dk j hj] at e
      simp [hj, e]
  · refine below_drewN (B := g) (a := w) (w := putRow (fun (b : UInt8) => Value.int .u8 (b.toNat : Int)) w g 0 dk) ⟨rfl, rfl, rfl, ?_, fun k hk => ?_⟩ n
    · show _ ≤ (w.heap.modify g _).size
      rw [Array.size_modify]
      exact Nat.le_refl _
    · show (w.heap.modify g _)[k]? = _
      rw [Array.getElem?_modify, if_neg (by omega)]

namespace Pd
/-- how many digits are left where the zeros behind are struck -/
def stripLen (Ds : List UInt8) : Nat → Nat
  | 0 => 0
  | n + 1 => if Ds.getD n 0 = 48 then stripLen Ds n else n + 1
theorem stripLen_le (Ds : List UInt8) : ∀ n, stripLen Ds n ≤ n
  | 0 => Nat.le_refl _
  | n + 1 => by
    unfold stripLen
    split
    · have := stripLen_le Ds n; omega
    · exact Nat.le_refl _
def digs (d : Nat) : List UInt8 := (Lib.decDigits d).take (stripLen (Lib.decDigits d) (Lib.nDigits d))
end Pd

theorem ret_two {a b c d : Int} (h : a = b) (h' : c = d) : Ending.returned (.tuple #[.int .i64 a, .int .i64 c]) = .returned (.tuple #[.int .i64 b, .int .i64 d]) := by rw [h, h']

set_option maxHeartbeats 2000000 in
set_option maxRecDepth 100000 in
theorem setDigits_any (g d : Nat) (p : Int) (t : TypeId) (w : World) (hR : Row w g t (List.replicate 32 (.int .u8 0))) (h1 : 1 ≤ d) (h2 : d ≤ 4611686018427387904) (hp1 : -1000 ≤ p) (hp2 : p ≤ 1000) :
    Calls Tryd.prog 57 #[.slice (some ⟨g, 0, none⟩) 32 32, .int .u64 d, .int .i64 p, .int .i64 (Lib.nDigits d : Nat)] w fun e w' =>
      e = .returned (.tuple #[.int .i64 ((Lib.nDigits d : Int) + p), .int .i64 (Pd.stripLen (Lib.decDigits d) (Lib.nDigits d) : Nat)]) ∧ Dig w' g (Lib.decDigits d) ∧ Below g w w' := by
  have hn := Lib.nDigits_le20 d (by omega)
  have hl := Lib.decDigits_length d
  have hfm := fmt10_any g d t w hR h1 h2
  obtain ⟨K, hK⟩ : ∃ K, Pd.stripLen (Lib.decDigits d) (Lib.nDigits d) = K := ⟨_, rfl⟩
  rw [hK]
  have HK : Hid _ := hK
  clear hK hR
  generalize Lib.decDigits d = Ds at *
  generalize Lib.nDigits d = nd at *
  go_enter Tryd.func57, Tryd.ntmps57
  go_wp2_with fail
  refine hfm.mono ?_
  rintro e w1 ⟨rfl, hD, hb⟩
  go_wp2
  go_loop [3] (fun v => ∃ k : Nat, v = .int .i64 k ∧ k ≤ nd ∧ Pd.stripLen Ds k = K) (fun v => (intOf v).toNat)
  case atStart => exact ⟨nd, rfl, Nat.le_refl _, HK.out⟩
  case round =>
    obtain ⟨k, rfl, hk, hs⟩ := hrel
    cases k with
    | zero =>
      have hs0 : (0 : Int) = (K : Int) := by unfold Pd.stripLen at hs; omega
      have HS : Hid _ := hs0
      clear hs hs0
      go_wp2
      go_ret2
      exact ⟨ret_two rfl HS.out, hD, hb⟩
    | succ k =>
      obtain ⟨x, hx⟩ : ∃ x, Ds[k]? = some x := ⟨Ds[k]'(by omega), List.getElem?_eq_getElem (by omega)⟩
      have hc := hD.cell k x hx
      have hgd : Ds.getD k 0 = x := by simp [List.getD, hx]
      have hki : ((k + 1 : Nat) : Int) - 1 = k := by omega
      have hx256 := x.toNat_lt
      by_cases h48 : x = 48
      · have hs2 : Pd.stripLen Ds k = K := by
          unfold Pd.stripLen at hs
          rw [hgd, if_pos h48] at hs
          exact hs
        subst h48
        have HS2 : Hid _ := hs2
        clear hs hs2 hgd hx
        go_wp2
        go_round
        case rel => exact ⟨k, by go_num, by omega, HS2.out⟩
        case measure => simp [intOf]
      · have hs2 : ((k + 1 : Nat) : Int) = (K : Int) := by
          unfold Pd.stripLen at hs
          rw [hgd, if_neg h48] at hs
          omega
        have hne : ((x.toNat : Int) == 48) = false := by
          have : x.toNat ≠ 48 := fun e => h48 (UInt8.toNat_inj.1 e)
          simp
          omega
        have HS2 : Hid _ := hs2
        clear hs hs2 hgd hx h48
        go_wp2
        go_ret2
        exact ⟨ret_two rfl HS2.out, hD, hb⟩
end Go.Proofs.Qxb6614922aDoor
