/-
  checkNames, AppendMutexMessage, zzAccepted.
-/
import Derived.Test.Qxb6616388aFmtW4
namespace Go.Proofs.Qxb6616388aFmt
open Go.RowKit Go.Extern.Stop Go.Stop Go.Extern
attribute [local go_sem] call21 fmtGuard kind_p kind_r kind_p0 kind_r0 empty_p empty_r empty_p0 empty_r0 notv_p notv_r notv_p0 notv_r0 wrap_p wrap_r wrap_p0 wrap_r0 send_p send_r send_p0 send_r0 recv_p recv_r recv_p0 recv_r0 op3_100w op9_115w ptr51 elem51 isError51 ptr48 elem48 isError48

/-- a name that is taken -/
def Ok (s : ByteArray) : Prop := s.size ≠ 0 ∧ Lib.validD s.data.toList = true
theorem not_ok {s : ByteArray} (h : ¬ Ok s) : s.size = 0 ∨ Lib.validD s.data.toList = false := by
  by_cases h0 : s.size = 0
  · exact .inl h0
  · refine .inr ?_
    cases hv : Lib.validD s.data.toList with
    | false => rfl
    | true => exact absurd ⟨h0, hv⟩ h

theorem cell_kept {w : World} {a : Addr} {v : Value} (h : w.cell? a = some v) (o : Obj) : (w.alloc o).cell? a = some v := by
  rw [World.cell?_of_block (w := w) (Below.heap_alloc w o a.block (World.block_lt_of_cell? w a h))]; exact h

set_option maxHeartbeats 1000000 in
set_option maxRecDepth 100000 in
theorem checkNames_ok (F : Interp) (k tm : Int) (f t what : ByteArray) (w : World) (hE : Env F w) (hf : f.size ≤ 1048576) (ht : t.size ≤ 1048576) (of : Ok f) (ot : Ok t) :
    Calls Tryf.prog 16 #[.agg #[.int .u8 k, .string f, .string t, .int .u64 tm], .string what] w fun e w' => e = .returned .nilIface ∧ Below w.heap.size w w' := by
  have hb0 := (Below.refl w.heap.size w).alloc (Nat.le_refl _) (.cells #[.int .u8 k, .string f, .string t, .int .u64 tm] 41)
  have hE0 := hE.below hb0
  go_enter Tryf.func16, Tryf.ntmps16
  go_wp2_with fail
  refine (checkProc_ok F f _ hE0 hf of.1 of.2).mono ?_
  rintro e w1 ⟨rfl, hb1⟩
  have c1 : w1.cell? ⟨w.heap.size, 2, none⟩ = some (.string t) := by
    rw [hb1.cell (by simp)]
    simp
  have hE1 := hE0.below hb1
  go_wp2_with fail
  refine (checkProc_ok F t _ hE1 ht ot.1 ot.2).mono ?_
  rintro e w2 ⟨rfl, hb2⟩
  go_wp2
  go_ret
  exact ⟨rfl, (hb0.trans (hb1.mono (by simp))).trans (hb2.mono (by have := hb1.size; simp at this; omega))⟩

set_option maxHeartbeats 1000000 in
set_option maxRecDepth 100000 in
theorem checkNames_bad1 (F : Interp) (k tm : Int) (f t what : ByteArray) (w : World) (hE : Env F w) (hf : f.size ≤ 1048576) (of : ¬ Ok f) :
    Calls Tryf.prog 16 #[.agg #[.int .u8 k, .string f, .string t, .int .u64 tm], .string what] w fun e w' => ∃ v, e = .returned v ∧ Err w' v ∧ Below w.heap.size w w' := by
  have hb0 := (Below.refl w.heap.size w).alloc (Nat.le_refl _) (.cells #[.int .u8 k, .string f, .string t, .int .u64 tm] 41)
  have hE0 := hE.below hb0
  go_enter Tryf.func16, Tryf.ntmps16
  go_wp2_with fail
  refine (checkProc_bad F f _ hE0 hf (not_ok of)).mono ?_
  rintro e w1 ⟨v, rfl, ⟨T, a, s, hT, rfl, hc⟩, hb1⟩
  have hE1 := hE0.below hb1
  have hF' := answers_open hE1.ans
  have hb := hb0.trans (hb1.mono (by simp))
  rcases hT with rfl | rfl
  · have hop := fun o => opPlain51_119w "fmt.errorf" a s (w1.alloc o) (cell_kept hc o)
    go_wp2
    go_ret
    exact ⟨_, rfl, ⟨48, _, _, .inr rfl, rfl, err_cell2 _ _ _ _ _⟩, ((hb.alloc hb.size _).alloc (by have := hb.size; simp; omega) _).drew⟩
  · have hop := fun o => opPlain48_119w "fmt.errorf" a s (w1.alloc o) (cell_kept hc o)
    go_wp2
    go_ret
    exact ⟨_, rfl, ⟨48, _, _, .inr rfl, rfl, err_cell2 _ _ _ _ _⟩, ((hb.alloc hb.size _).alloc (by have := hb.size; simp; omega) _).drew⟩

set_option maxHeartbeats 1000000 in
set_option maxRecDepth 100000 in
theorem checkNames_bad2 (F : Interp) (k tm : Int) (f t what : ByteArray) (w : World) (hE : Env F w) (hf : f.size ≤ 1048576) (ht : t.size ≤ 1048576) (of : Ok f) (ot : ¬ Ok t) :
    Calls Tryf.prog 16 #[.agg #[.int .u8 k, .string f, .string t, .int .u64 tm], .string what] w fun e w' => ∃ v, e = .returned v ∧ Err w' v ∧ Below w.heap.size w w' := by
  have hb0 := (Below.refl w.heap.size w).alloc (Nat.le_refl _) (.cells #[.int .u8 k, .string f, .string t, .int .u64 tm] 41)
  have hE0 := hE.below hb0
  go_enter Tryf.func16, Tryf.ntmps16
  go_wp2_with fail
  refine (checkProc_ok F f _ hE0 hf of.1 of.2).mono ?_
  rintro e w1 ⟨rfl, hb1⟩
  have c1 : w1.cell? ⟨w.heap.size, 2, none⟩ = some (.string t) := by
    rw [hb1.cell (by simp)]
    simp
  have hE1 := hE0.below hb1
  go_wp2_with fail
  refine (checkProc_bad F t _ hE1 ht (not_ok ot)).mono ?_
  rintro e w2 ⟨v, rfl, ⟨T, a, s, hT, rfl, hc⟩, hb2⟩
  have hE2 := hE1.below hb2
  have hF' := answers_open hE2.ans
  have hb := (hb0.trans (hb1.mono (by simp))).trans (hb2.mono (by have := hb1.size; simp at this; omega))
  rcases hT with rfl | rfl
  · have hop := fun o => opPlain51_119w "fmt.errorf" a s (w2.alloc o) (cell_kept hc o)
    go_wp2
    go_ret
    exact ⟨_, rfl, ⟨48, _, _, .inr rfl, rfl, err_cell2 _ _ _ _ _⟩, ((hb.alloc hb.size _).alloc (by have := hb.size; simp; omega) _).drew⟩
  · have hop := fun o => opPlain48_119w "fmt.errorf" a s (w2.alloc o) (cell_kept hc o)
    go_wp2
    go_ret
    exact ⟨_, rfl, ⟨48, _, _, .inr rfl, rfl, err_cell2 _ _ _ _ _⟩, ((hb.alloc hb.size _).alloc (by have := hb.size; simp; omega) _).drew⟩

theorem checkNames_bad (F : Interp) (k tm : Int) (f t what : ByteArray) (w : World) (hE : Env F w) (hf : f.size ≤ 1048576) (ht : t.size ≤ 1048576) (h : ¬ (Ok f ∧ Ok t)) :
    Calls Tryf.prog 16 #[.agg #[.int .u8 k, .string f, .string t, .int .u64 tm], .string what] w fun e w' => ∃ v, e = .returned v ∧ Err w' v ∧ Below w.heap.size w w' := by
  by_cases of : Ok f
  · exact checkNames_bad2 F k tm f t what w hE hf ht of (fun ot => h ⟨of, ot⟩)
  · exact checkNames_bad1 F k tm f t what w hE hf of

end Go.Proofs.Qxb6616388aFmt
