/-
  slices.Values over a slice of strings: the iterator's contract.
-/
import Derived.RangeFuncNested
import Derived.RangeFuncBound
import Derived.RangeFuncCalls
import Derived.RangeFuncLeaves
import Derived.RangeFuncBox
import Derived.Shelf.Abstract
import Derived.Shelf.RegionOpen
import Derived.WalkKit
import Derived.OwnWalkIn
import Derived.TacticsInMore
import Derived.LoopNIn
import Derived.LoopIn
import Derived.Test.Qxb6616414aDoorW3
namespace Go.Proofs.Qxb6616414aDoor
open Go.RowKit Go.Shelf

attribute [local go_sem] Oper.semAt_some

/-- a string that is not too long -/
abbrev Small := { x : ByteArray // x.size ≤ 1048576 }
abbrev none' : Small := ⟨⟨#[]⟩, by decide⟩

def upto {α : Type} (f : Nat → α) (k : Nat) : List α := (List.range k).map f
theorem upto_succ {α : Type} (f : Nat → α) (k : Nat) : upto f (k + 1) = upto f k ++ [f k] := by simp [upto, List.range_succ]
theorem upto_length {α : Type} (f : Nat → α) (k : Nat) : (upto f k).length = k := by simp [upto]
theorem upto_all (zs : List Small) : upto (fun j => zs[j]?.getD none') zs.length = zs := by
  apply List.ext_getElem
  · simp [upto]
  · intro i h1 h2
    simp [upto, h2]

set_option maxRecDepth 100000 in
set_option maxHeartbeats 2000000 in
theorem values1_in (F : Fence) (n : Nat) (h7 : F.fn 13) (hro : F.round = none) (hn : 1 ≤ n) (l Bs n₀ b off len cap : Nat) (zs : List Small) (hreach : len * 16 ≤ 140737488351232) (hb : b < n₀) (J Jx : List Small → World → Prop)
    (hY : ∀ pre x W, J pre W → pre.length < len → YieldAt F (n - 1) Tryd.prog l #[.string x.1] W fun e W' =>
      (e = .returned (.bool true) ∧ J (pre ++ [x]) W' ∧ Below n₀ W W') ∨ (e = .returned (.bool false) ∧ Jx (pre ++ [x]) W'))
    (W : World) (hBs : W.cell? ⟨Bs, 0, none⟩ = some (.slice (some ⟨b, off, none⟩) len cap)) (hc : ∀ j, j < len → W.cell? ⟨b, off + j, none⟩ = some (.string (zs[j]?.getD none').1)) (h0 : J [] W) :
    CallsIn F n Tryd.prog 13 #[.func (.yield l) #[] #[], .pointer (some ⟨Bs, 0, none⟩)] W fun e W' => (∃ v, e = .returned v) ∧
      ((∃ ys, ys = upto (fun j => zs[j]?.getD none') len ∧ J ys W') ∨ (∃ pre, (∃ k, k ≤ len ∧ pre = upto (fun j => zs[j]?.getD none') k) ∧ Jx pre W')) := by
  refine callsIn_of_wp Tryd.func13 rfl h7 ?_ hro
  simp only [Tryd.ntmps13, List.size_toArray, List.length_cons, List.length_nil, Nat.reduceAdd, Nat.reduceSub, Array.replicate_succ, Array.replicate_zero, List.push_toArray, List.append_toArray, List.nil_append, List.cons_append]
  gi_wp2
  gi_loopw [7] (fun i wr => ∃ k : Nat, k ≤ len ∧ i = .int .i64 k ∧ J (upto (fun j => zs[j]?.getD none') k) wr ∧ Below n₀ W wr)
    (fun i _ => len - (RowKit.intOf i).toNat)
  case atStart => exact ⟨0, Nat.zero_le _, rfl, h0, Below.refl _ _⟩
  case round =>
    obtain ⟨k, hk, rfl, hJs, hnx⟩ := hrel
    have hcx : k < len → wr.cell? ⟨b, off + k, none⟩ = some (.string (zs[k]?.getD none').1) := fun h => (hnx.cell (p := ⟨b, off + k, none⟩) hb).trans (hc k h)
    by_cases hlt : k < len
    · obtain ⟨fn, tmps, assign, body, hy, hR⟩ := hY _ (zs[k]?.getD none') wr hJs (by rw [upto_length]; exact hlt)
      have hcx' := hcx hlt
      gi_wp2
      refine hR.mono ?_
      rintro e W3 (⟨rfl, hJ3, hk3⟩ | ⟨rfl, hJx3⟩)
      · -- THE ROUND GOES ON
        gi_wp2
        go_roundw
        case rel => exact ⟨k + 1, by omega, by simp, by rw [upto_succ]; exact hJ3, hnx.trans hk3⟩
        case measure => simp [RowKit.intOf]; omega
      · gi_wp2
        refine bodyPost_ret (results_none rfl _ _ _) rfl ?_
        exact ⟨⟨_, rfl⟩, .inr ⟨_, ⟨k + 1, by omega, (upto_succ _ _).symm⟩, hJx3⟩⟩
    · obtain rfl : k = len := by omega
      gi_wp2
      go_end0
      exact ⟨⟨_, rfl⟩, .inl ⟨_, rfl, hJs⟩⟩

theorem upto_take (zs : List Small) {k : Nat} (hk : k ≤ zs.length) : upto (fun j => zs[j]?.getD none') k = zs.take k := by
  apply List.ext_getElem
  · simp [upto, hk]
  · intro i h1 h2
    have : i < zs.length := by simp [upto] at h1; omega
    simp [upto, this]

def Svals (n₀ : Nat) (W : World) (sv : Value) (zs : List Small) : Prop :=
  (sv = .slice none 0 0 ∧ zs = []) ∨ ∃ b off cap, sv = .slice (some ⟨b, off, none⟩) zs.length cap ∧ b < n₀ ∧ ∀ j, j < zs.length → W.cell? ⟨b, off + j, none⟩ = some (.string (zs[j]?.getD none').1)
theorem Svals.below {n₀ : Nat} {A B : World} (h : Below n₀ A B) {sv : Value} {zs : List Small} : Svals n₀ A sv zs → Svals n₀ B sv zs
  | .inl e => .inl e
  | .inr ⟨b, off, cap, e, hb, hc⟩ => .inr ⟨b, off, cap, e, hb, fun j hj => (h.cell (p := ⟨b, off + j, none⟩) hb).trans (hc j hj)⟩

set_option maxRecDepth 100000 in
set_option maxHeartbeats 1000000 in
theorem values1_nil_in (F : Fence) (n : Nat) (h7 : F.fn 13) (hro : F.round = none) (l Bs : Nat) (J : List Small → World → Prop) (W : World) (hBs : W.cell? ⟨Bs, 0, none⟩ = some (.slice none 0 0)) (h0 : J [] W) :
    CallsIn F n Tryd.prog 13 #[.func (.yield l) #[] #[], .pointer (some ⟨Bs, 0, none⟩)] W fun e W' => (∃ v, e = .returned v) ∧ J [] W' := by
  refine callsIn_of_wp Tryd.func13 rfl h7 ?_ hro
  simp only [Tryd.ntmps13, List.size_toArray, List.length_cons, List.length_nil, Nat.reduceAdd, Nat.reduceSub, Array.replicate_succ, Array.replicate_zero, List.push_toArray, List.append_toArray, List.nil_append, List.cons_append]
  gi_wp2
  gi_loopw [7] (fun i wr => i = .int .i64 0 ∧ J [] wr) (fun _ _ => 0)
  case atStart => exact ⟨rfl, h0⟩
  case round =>
    obtain ⟨rfl, hJs⟩ := hrel
    gi_wp2
    go_end0
    exact ⟨⟨_, rfl⟩, hJs⟩

set_option maxHeartbeats 1000000 in
theorem values_in (F : Fence) (n : Nat) (h5 : F.fn 11) (hro : F.round = none) (a : Option Addr) (len cap : Nat) (w : World) :
    CallsIn F n Tryd.prog 11 #[.slice a len cap] w fun e w' => e = .returned (.func (.func 13) #[] #[.pointer (some ⟨w.heap.size, 0, none⟩)]) ∧ w' = w.alloc (.cells #[.slice a len cap] 22) := by
  refine callsIn_of_wp Tryd.func11 rfl h5 ?_ hro
  simp only [Tryd.ntmps11, List.size_toArray, List.length_cons, List.length_nil, Nat.reduceAdd, Nat.reduceSub, Array.replicate_succ, Array.replicate_zero, List.push_toArray, List.append_toArray, List.nil_append, List.cons_append]
  gi_wp2
  go_ret
  exact ⟨rfl, rfl⟩

theorem values_stops (F : Fence) (n : Nat) (h7 : F.fn 13) (hro : F.round = none) (hn : 1 ≤ n) (Bs n₀ : Nat) (sv : Value) (zs : List Small) (hreach : zs.length * 16 ≤ 140737488351232) (w : World) (hBs : Bs < w.heap.size) (hn₀ : n₀ ≤ w.heap.size)
    (hc : w.cell? ⟨Bs, 0, none⟩ = some sv) (hI : Svals n₀ w sv zs) :
    SeqStopsK F n Tryd.prog 13 #[.pointer (some ⟨Bs, 0, none⟩)] (fun x : Small => #[Value.string x.1]) (Below n₀) (fun ys => ys = zs) (fun pre => pre <+: zs) zs.length w := fun l J Jx W hW _ _ hY h0 => by
  have hc' := (hW.cell (p := ⟨Bs, 0, none⟩) hBs).trans hc
  rcases hI.below (hW.mono hn₀) with ⟨rfl, rfl⟩ | ⟨b, off, cap, rfl, hb, hcs⟩
  · exact (values1_nil_in F n h7 hro l Bs J W hc' h0).mono fun e W' ⟨he, hj⟩ => ⟨he, .inl ⟨_, rfl, hj⟩⟩
  · refine (values1_in F n h7 hro hn l Bs n₀ b off zs.length cap zs hreach hb J Jx hY W hc' hcs h0).mono ?_
    rintro e W' ⟨he, ⟨ys, rfl, hj⟩ | ⟨pre, ⟨k, hk, rfl⟩, hj⟩⟩
    · exact ⟨he, .inl ⟨_, upto_all zs, hj⟩⟩
    · exact ⟨he, .inr ⟨_, by rw [upto_take zs hk]; exact List.take_prefix _ _, hj⟩⟩


end Go.Proofs.Qxb6616414aDoor
