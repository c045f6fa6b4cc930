/-
  shortestDecimal.
-/
import Derived.Test.Qxb6614922aDoorW7
import Derived.Test.Qxb6614922aDoorPlain7
namespace Go.Proofs.Qxb6614922aDoor
open Go.RowKit

set_option maxHeartbeats 1000000 in
theorem append33_any (b : Nat) (h1 : 1 ≤ b) (h2 : b < 9218868437227405312) (w : World) (hE : Env w) (hw : 6 < w.heap.size) :
    Calls Tryd.prog 33 #[.slice none 0 0, .float .f64 b, .int .u8 101, .int .i64 (-1), .int .i64 64] w fun e w' => ∃ v, e = .returned v ∧ Own w.heap.size w' v (Pd.txt (Pd.digs (Pd.dB b).1) (Pd.ptB b)) ∧ Below w.heap.size w w' := by
  go_enter Tryd.func33, Tryd.ntmps33
  go_wp2_with fail
  refine (ftoa_any b h1 h2 w hE hw).mono ?_
  rintro e w1 ⟨v, rfl, hO, hb⟩
  go_wp2
  go_ret
  exact ⟨v, rfl, hO, hb⟩
set_option maxHeartbeats 1000000 in
theorem append26_any (b : Nat) (h1 : 1 ≤ b) (h2 : b < 9218868437227405312) (w : World) (hE : Env w) (hw : 6 < w.heap.size) :
    Calls Tryd.prog 26 #[.slice none 0 0, .float .f64 b, .int .u8 101, .int .i64 (-1), .int .i64 64] w fun e w' => ∃ v, e = .returned v ∧ Own w.heap.size w' v (Pd.txt (Pd.digs (Pd.dB b).1) (Pd.ptB b)) ∧ Below w.heap.size w w' := by
  go_enter Tryd.func26, Tryd.ntmps26
  go_wp2_with fail
  refine (append33_any b h1 h2 w hE hw).mono ?_
  rintro e w1 ⟨v, rfl, hO, hb⟩
  go_wp2
  go_ret
  exact ⟨v, rfl, hO, hb⟩

namespace Pd
set_option maxRecDepth 100000 in
theorem atoiAll : ((List.range 800).all fun i => Lib.atoi (sgn ((i : Int) - 400) :: expTxt ((i : Int) - 400).natAbs) == some ((i : Int) - 400)) = true := by kernel_rfl
theorem atoi_exp {e : Int} (h1 : -400 ≤ e) (h2 : e < 400) : Lib.atoi (sgn e :: expTxt e.natAbs) = some e := by
  have := List.all_eq_true.1 atoiAll (e + 400).toNat (List.mem_range.2 (by omega))
  rw [show (((e + 400).toNat : Nat) : Int) - 400 = e by omega] at this
  simpa using this
theorem expTxt_len (e : Nat) : 2 ≤ (expTxt e).length ∧ (expTxt e).length ≤ 3 := by
  unfold expTxt
  split
  · simp
  · split <;> simp
theorem index_e : ∀ (M R : List UInt8), (∀ x ∈ M, x ≠ 101) → Lib.indexByte (M ++ 101 :: R) 101 = M.length
  | [], R, _ => by simp [Lib.indexByte]
  | a :: M, R, h => by
    have ha := h a (.head _)
    have ih := index_e M R (fun x hx => h x (.tail _ hx))
    simp only [List.cons_append, Lib.indexByte]
    rw [if_neg (by simpa using ha), ih, if_neg (by simp)]
    simp
end Pd

theorem step_app {ops : Array Oper} {o : Oper} {a : Act} {w : World} {K : Act → World → Prop} {Q : Exit → Act → World → Prop} {E : Prop} (hgd : o.guard = none) (s x : Operand)
    (ho : o.op = .call { callee := .builtin .append, args := #[s, x], argTypes := #[23, 23] }) (B : Nat) (v : Value) (L : List UInt8) (hs : a.eval s = v) (hown : Own B w v L)
    (g off m c : Nat) (X : List UInt8) (hx : a.eval x = .slice (some ⟨g, off, none⟩) m c) (hm : X.length = m) (hnews : ∀ (j : Nat) y, X[j]? = some y → w.cell? ⟨g, off + j, none⟩ = some (.int .u8 (y.toNat : Int)))
    (hlen : L.length + X.length ≤ 1000) (hB : B ≤ w.heap.size)
    (h : ∀ v' w', Own B w' v' (L ++ X) → Below B w w' → K (a.put o.dst v') w') : if Region.wanted o (yielded ops a.tmps) = true then Oper.wp Tryd.prog o a w K Q else E := by
  have hw : Region.wanted o (yielded ops a.tmps) = true := by simp [Region.wanted, hgd]
  rw [if_pos hw]
  obtain ⟨i0, hi, hz0, hz1, hz2⟩ := info_parts info5
  refine wp_append_own _ s x 23 ho B 5 i0 (.int .u8 0) 1 1 Tryd.underlying23 hi hz0 hz1 hz2 rfl (by decide) v L.length (Lib.byteCells L) hs hown ⟨g, off, none⟩ m c (Lib.byteCells X) hx (by rw [Lib.byteCells_length]; omega) ?_ ?_ (by unfold maxLen; omega) (by omega) hB ?_
  · intro j u hj
    rw [Lib.add_plain]
    simp only [Lib.byteCells, List.getElem?_map, Option.map_eq_some_iff] at hj
    obtain ⟨y, hy, rfl⟩ := hj
    exact hnews j y hy
  · intro u hu
    simp only [Lib.byteCells, List.mem_map] at hu
    obtain ⟨y, _, rfl⟩ := hu
    rfl
  · intro v' w' hown' hgrow _
    exact h v' w' (Own.of hown' rfl) ((Below.refl B w).grown hgrow hB (fun k hk => (hown.lt k hk).1))

/-- what such a slice is, where it holds something -/
theorem Own.open {B : Nat} {w : World} {v : Value} {L : List UInt8} (h : Own B w v L) (hL : 1 ≤ L.length) : ∃ g cap, v = .slice (some ⟨g, 0, none⟩) L.length cap ∧ B ≤ g ∧ L.length ≤ cap ∧ cap ≤ maxLen ∧ (∀ (j : Nat) x, L[j]? = some x → w.cell? ⟨g, j, none⟩ = some (.int .u8 (x.toNat : Int))) ∧
    ∀ k, k ≤ L.length → Own B w (.slice (some ⟨g, 0, none⟩) k cap) (L.take k) := by
  obtain ⟨h1, h2⟩ := h
  rcases h2 with ⟨_, h0⟩ | ⟨g, cap, cur, e, hB, hR, hn, hm, hs, ht⟩
  · omega
  · refine ⟨g, cap, e, hB, hn, hm, fun j x hx => ?_, fun k hk => ⟨?_, .inr ⟨g, cap, cur, ?_, hB, hR, by rw [List.length_take]; omega, hm, hs, ?_⟩⟩⟩
    · have hj : (Lib.byteCells L)[j]? = some (.int .u8 (x.toNat : Int)) := by simp [Lib.byteCells, hx]
      rw [← ht, List.getElem?_take] at hj
      split at hj
      · simp [World.cell?, hR]
        simpa using hj
      · cases hj
    · rw [Lib.byteCells_length]; omega
    · rw [List.length_take, Nat.min_eq_left hk]
    · rw [List.length_take, Nat.min_eq_left hk]
      have := congrArg (List.take k) ht
      rw [List.take_take] at this
      rw [Nat.mul_one] at this ⊢
      rw [Nat.min_eq_left hk] at this
      rw [this]
      simp [Lib.byteCells]

end Go.Proofs.Qxb6614922aDoor
