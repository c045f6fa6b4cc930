/-
  prescale.
-/
import Derived.Test.Qxb6614922aDoorW2
import Derived.Test.Qxb6614922aDoorRow
namespace Go.Proofs.Qxb6614922aDoor
open Go.RowKit

/-- what the road asks of the world: two tables -/
structure Env (w : World) : Prop where
  pow : ∀ i : Nat, i < 696 → w.cell? ⟨6, i * 2, none⟩ = some (.int .u64 (Pd.hiT ((i : Int) - 348) : Nat)) ∧ w.cell? ⟨6, i * 2 + 1, none⟩ = some (.int .u64 (Pd.loT ((i : Int) - 348) : Nat))
  ten : Lib.TabIs Tryd.prog w Tryd.nmPow .u64 Lib.pow10Tab

theorem Scal.row {w : World} {g a b : Nat} {s : Int} (h : Scal w g a b s) : Row w g 116 [.int .u64 a, .int .u64 b, .int .i64 s] := h
theorem Scal.of {w : World} {g a b : Nat} {s : Int} (h : Row w g 116 [.int .u64 a, .int .u64 b, .int .i64 s]) : Scal w g a b s := h

set_option maxHeartbeats 2000000 in
set_option maxRecDepth 100000 in
theorem prescale_any (g : Nat) (e p lp : Int) (w : World) (hE : Env w) (hS : Scal w g 0 0 0) (hg : 6 < g) (hp1 : -348 ≤ p) (hp2 : p ≤ 347) (he1 : -3000 ≤ e) (he2 : e ≤ 3000) (hl1 : -3000 ≤ lp) (hl2 : lp ≤ 3000) :
    Calls Tryd.prog 74 #[.pointer (some ⟨g, 0, none⟩), .int .i64 e, .int .i64 p, .int .i64 lp] w fun e' w' => e' = .returned (.tuple #[]) ∧ Scal w' g (Pd.hiT p) (Pd.loT p) (-(e + lp + 3)) ∧ Below g w w' := by
  obtain ⟨i, hi⟩ : ∃ i : Nat, p = (i : Int) - 348 := ⟨(p + 348).toNat, by omega⟩
  subst hi
  obtain ⟨t0, t1⟩ := hE.pow i (by omega)
  generalize Pd.hiT ((i : Int) - 348) = hi at *
  generalize Pd.loT ((i : Int) - 348) = lo at *
  have hi0 : (i : Int) - 348 - -348 = i := by omega
  have hR := hS.row
  have hR1 := hR.set 0 (.int .u64 hi)
  have hR2 := hR1.set 1 (.int .u64 lo)
  have hR3 := hR2.set 2 (.int .i64 (-(e + lp + 3)))
  have b1 := (Below.refl g w).setCell (p := ⟨g, 0, none⟩) (Nat.le_refl _) (.int .u64 hi)
  have b2 := b1.setCell (p := ⟨g, 1, none⟩) (Nat.le_refl _) (.int .u64 lo)
  have b3 := b2.setCell (p := ⟨g, 2, none⟩) (Nat.le_refl _) (.int .i64 (-(e + lp + 3)))
  have f0 := hR.free 0
  have c0 := hR.cell 0 _ rfl
  have f1 := hR1.free 1
  have c1 := hR1.cell 1 _ rfl
  have f2 := hR2.free 2
  have c2 := hR2.cell 2 _ rfl
  have t1' : (w.setCell ⟨g, 0, none⟩ (.int .u64 hi)).cell? ⟨6, i * 2 + 1, none⟩ = some (.int .u64 lo) := by rw [b1.cell hg]; exact t1
  have HR : Hid _ := hR3
  have HB : Hid _ := b3
  clear hR hR1 hR2 hR3 b1 b2 b3 hS hE
  go_enter Tryd.func74, Tryd.ntmps74
  go_wp2
  go_end0
  exact ⟨rfl, Scal.of HR.out, HB.out⟩
end Go.Proofs.Qxb6614922aDoor
