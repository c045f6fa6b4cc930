/-
  The small functions of unrounded scaling.
-/
import Derived.Test.Qxb6614922aDoorPlain5
import Derived.Test.Qxb6614922aDoorProg
import Derived.Laws.Bits64
import Derived.Laws.BitsLemmas
import Derived.WalkKit
import Derived.WalkSpells
import Derived.WalkLawsBesides
import Derived.Deep.Light
namespace Go.Proofs.Qxb6614922aDoor
open Go.RowKit

theorem ret_u {a b : Int} (h : a = b) : Ending.returned (.int .u64 a) = .returned (.int .u64 b) := by rw [h]
theorem and_u64 (a b : Nat) (ha : a < 18446744073709551616) (hb : b < 18446744073709551616) : bits .and .u64 (a : Int) (b : Int) = ((a &&& b : Nat) : Int) :=
  (bits_nat .u64 64 (by decide) (fun n h0 h1 => by rw [IntKind.wrap_u64]; omega) a b (by simpa using ha) (by simpa using hb)).1
theorem or_u64 (a b : Nat) (ha : a < 18446744073709551616) (hb : b < 18446744073709551616) : bits .or .u64 (a : Int) (b : Int) = ((a ||| b : Nat) : Int) :=
  (bits_nat .u64 64 (by decide) (fun n h0 h1 => by rw [IntKind.wrap_u64]; omega) a b (by simpa using ha) (by simpa using hb)).2

set_option maxHeartbeats 1000000 in
theorem l10_any (x : Int) (w : World) (h1 : -5000 ≤ x) (h2 : x ≤ 5000) : Calls Tryd.prog 59 #[.int .i64 x] w fun e w' => e = .returned (.int .i64 (Pd.l10 x)) ∧ w' = w := by
  go_enter Tryd.func59, Tryd.ntmps59
  go_wp2
  go_ret
  exact ⟨rfl, rfl⟩
set_option maxHeartbeats 1000000 in
theorem l2_any (x : Int) (w : World) (h1 : -5000 ≤ x) (h2 : x ≤ 5000) : Calls Tryd.prog 75 #[.int .i64 x] w fun e w' => e = .returned (.int .i64 (Pd.l2 x)) ∧ w' = w := by
  go_enter Tryd.func75, Tryd.ntmps75
  go_wp2
  go_ret
  exact ⟨rfl, rfl⟩
set_option maxHeartbeats 1000000 in
theorem sk_any (x : Int) (w : World) (h1 : -5000 ≤ x) (h2 : x ≤ 5000) : Calls Tryd.prog 73 #[.int .i64 x] w fun e w' => e = .returned (.int .i64 (Pd.sk x)) ∧ w' = w := by
  go_enter Tryd.func73, Tryd.ntmps73
  go_wp2
  go_ret
  exact ⟨rfl, rfl⟩

set_option maxHeartbeats 1000000 in
theorem b2u_any (b : Bool) (w : World) : Calls Tryd.prog 96 #[.bool b] w fun e w' => e = .returned (.int .u64 ((if b then 1 else 0 : Nat) : Int)) ∧ w' = w := by
  cases b
  all_goals
    go_enter Tryd.func96, Tryd.ntmps96
    go_wp2
    go_ret
    exact ⟨rfl, rfl⟩

set_option maxHeartbeats 1000000 in
theorem ceil_any (u : Nat) (w : World) (h : u + 3 < 18446744073709551616) : Calls Tryd.prog 78 #[.int .u64 u] w fun e w' => e = .returned (.int .u64 (((u + 3) / 4 : Nat) : Int)) ∧ w' = w := by
  go_enter Tryd.func78, Tryd.ntmps78
  go_wp2
  go_ret
  exact ⟨ret_u (by omega), rfl⟩
set_option maxHeartbeats 1000000 in
theorem floor_any (u : Nat) (w : World) (h : u < 18446744073709551616) : Calls Tryd.prog 79 #[.int .u64 u] w fun e w' => e = .returned (.int .u64 ((u / 4 : Nat) : Int)) ∧ w' = w := by
  go_enter Tryd.func79, Tryd.ntmps79
  go_wp2
  go_ret
  exact ⟨ret_u (by omega), rfl⟩
set_option maxHeartbeats 1000000 in
theorem round_any (u : Nat) (w : World) (h : u + 3 < 18446744073709551616) : Calls Tryd.prog 80 #[.int .u64 u] w fun e w' => e = .returned (.int .u64 (((u + 1 + u / 4 % 2) / 4 : Nat) : Int)) ∧ w' = w := by
  have hb : bits .and .u64 ((u : Int) / 4) 1 = ((u / 4 % 2 : Nat) : Int) := by
    have := and_u64 (u / 4) 1 (by omega) (by decide)
    rw [Nat.and_one_is_mod] at this
    rw [← this]
    norm_cast
  go_enter Tryd.func80, Tryd.ntmps80
  go_wp2
  go_ret
  exact ⟨ret_u (by omega), rfl⟩
set_option maxHeartbeats 1000000 in
theorem nudge_up (u odd : Nat) (w : World) (h : u + 1 < 18446744073709551616) (ho : odd < 2) : Calls Tryd.prog 77 #[.int .u64 u, .int .i64 odd] w fun e w' => e = .returned (.int .u64 ((u + odd : Nat) : Int)) ∧ w' = w := by
  go_enter Tryd.func77, Tryd.ntmps77
  go_wp2
  go_ret
  exact ⟨ret_u (by omega), rfl⟩
set_option maxHeartbeats 1000000 in
theorem nudge_down (u odd : Nat) (w : World) (h : u < 18446744073709551616) (hu : 1 ≤ u) (ho : odd < 2) : Calls Tryd.prog 77 #[.int .u64 u, .int .i64 (-(odd : Int))] w fun e w' => e = .returned (.int .u64 ((u - odd : Nat) : Int)) ∧ w' = w := by
  rcases (show odd = 0 ∨ odd = 1 by omega) with rfl | rfl
  · go_enter Tryd.func77, Tryd.ntmps77
    go_wp2
    go_ret
    exact ⟨ret_u (by omega), rfl⟩
  · go_enter Tryd.func77, Tryd.ntmps77
    go_wp2
    go_ret
    exact ⟨ret_u (by rw [IntKind.wrap_u64, IntKind.wrap_u64]; omega), rfl⟩
end Go.Proofs.Qxb6614922aDoor
