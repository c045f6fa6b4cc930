/-
  THE WALKS OF THE SMALL FUNCTIONS: zzBytes, unhex, isUnreserved, zzHasOperator, zzCountSlashes, String.
-/
import Derived.Test.Qxb6616416aFmtProg
import Derived.Test.Qxb6616416aFmtPlain
import Derived.WalkKit
import Derived.WalkSpells
namespace Go.Proofs.Qxb6616416aFmt
open Go.RowKit

set_option maxHeartbeats 400000 in
theorem unhex_any (c : Int) (w : World) :
    Calls Tryf.prog 29 #[.int .u8 c] w fun e w' => e = .returned (.tuple #[.int .u8 (Pl.hexVal c), .bool (Pl.isHex c)]) ∧ w' = w := by
  by_cases a : 48 ≤ c ∧ c ≤ 57
  · have e1 : Pl.hexVal c = c - 48 := by simp [Pl.hexVal, a]
    have e2 : Pl.isHex c = true := by simp [Pl.isHex, a]
    rw [e1, e2]
    obtain ⟨a1, a2⟩ := a
    go_enter Tryf.func29, Tryf.ntmps29
    go_wp2
    go_ret2
    exact ⟨rfl, rfl⟩
  · by_cases b : 97 ≤ c ∧ c ≤ 102
    · have e1 : Pl.hexVal c = c - 97 + 10 := by simp [Pl.hexVal, a, b]; omega
      have e2 : Pl.isHex c = true := by simp [Pl.isHex, b]
      rw [e1, e2]
      obtain ⟨a1, a2⟩ := b
      go_enter Tryf.func29, Tryf.ntmps29
      go_wp2
      go_ret2
      exact ⟨rfl, rfl⟩
    · by_cases d : 65 ≤ c ∧ c ≤ 70
      · have e1 : Pl.hexVal c = c - 65 + 10 := by simp [Pl.hexVal, a, b, d]; omega
        have e2 : Pl.isHex c = true := by simp [Pl.isHex, d]
        rw [e1, e2]
        obtain ⟨a1, a2⟩ := d
        go_enter Tryf.func29, Tryf.ntmps29
        go_wp2
        go_ret2
        exact ⟨rfl, rfl⟩
      · have e1 : Pl.hexVal c = 0 := by simp [Pl.hexVal, a, b, d]
        have e2 : Pl.isHex c = false := by simp [Pl.isHex]; omega
        rw [e1, e2]
        go_enter Tryf.func29, Tryf.ntmps29
        go_wp2
        all_goals
          go_ret2
          exact ⟨rfl, rfl⟩

end Go.Proofs.Qxb6616416aFmt
