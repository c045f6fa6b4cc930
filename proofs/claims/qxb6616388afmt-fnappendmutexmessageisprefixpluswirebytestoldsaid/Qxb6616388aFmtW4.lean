/-
  checkName, checkProcessName, checkNames: nil just where the name is taken.
-/
import Derived.Test.Qxb6616388aFmtFmt
import Derived.Lib.PrintData
namespace Go.Proofs.Qxb6616388aFmt
open Go.RowKit Go.Extern.Stop Go.Stop Go.Extern
attribute [local go_sem] call21 fmtGuard kind_p kind_r kind_p0 kind_r0 empty_p empty_r empty_p0 empty_r0 notv_p notv_r notv_p0 notv_r0 wrap_p wrap_r wrap_p0 wrap_r0 send_p send_r send_p0 send_r0 recv_p recv_r recv_p0 recv_r0 op3_100w op9_115w ptr51 elem51 isError51 ptr48 elem48 isError48

/-- what the road asks of the world -/
structure Env (F : Interp) (w : World) : Prop where
  tabs : Lib.Utf8Tabs 0 1 w
  prints : ∃ T, Lib.PrintTabsAt 2 3 4 5 T w
  ans : F.told.answers w.tape
  size : 6 ≤ w.heap.size

theorem tab_below {g : Nat} {k : IntKind} {t : List Nat} {w w' : World} (h : Lib.TabSlice g k t w) (hb : Below w.heap.size w w') : Lib.TabSlice g k t w' := by
  obtain ⟨R, o, c, h1, h2⟩ := h
  exact ⟨R, o, c, by rw [hb.cell (World.block_lt_of_cell? w _ h1)]; exact h1, fun j hj => by rw [hb.cell (World.block_lt_of_cell? w _ (h2 j hj))]; exact h2 j hj⟩

theorem Env.below {F : Interp} {w w' : World} (h : Env F w) (hb : Below w.heap.size w w') : Env F w' := by
  obtain ⟨⟨t1, t2⟩, ⟨T, p1, p2, p3, p4, p5⟩, ha, hs⟩ := h
  refine ⟨⟨fun c hc => ?_, fun i hi => ?_⟩, ⟨T, tab_below p1 hb, tab_below p2 hb, tab_below p3 hb, tab_below p4 hb, p5⟩, by rw [hb.tape]; exact ha, Nat.le_trans hs hb.size⟩
  · rw [hb.cell (by show 0 < w.heap.size; omega)]; exact t1 c hc
  · rw [hb.cell (by show 1 < w.heap.size; omega), hb.cell (by show 1 < w.heap.size; omega)]; exact t2 i hi

/-- an error of errors.New's or fmt.Errorf's make -/
def Err (w : World) (v : Value) : Prop := ∃ (T : Nat) (a : Addr) (s : ByteArray), (T = 51 ∨ T = 48) ∧ v = .iface T (.pointer (some a)) ∧ w.cell? a = some (.string s)

theorem err_cell (w : World) (o : Obj) (t : ByteArray) (T : Nat) : ((w.alloc o).alloc (.cells #[.string t] T)).drew.cell? ⟨w.heap.size + 1, 0, none⟩ = some (.string t) := by simp
theorem err_cell2 (w : World) (o : Obj) (t : ByteArray) (x : Value) (T : Nat) : ((w.alloc o).alloc (.cells #[.string t, x] T)).drew.cell? ⟨w.heap.size + 1, 0, none⟩ = some (.string t) := by simp

theorem ne_of_invalid {s : ByteArray} (h : Lib.validD s.data.toList = false) : s.size ≠ 0 := by
  intro h0
  have : s.data.toList = [] := List.eq_nil_of_length_eq_zero (by simpa using h0)
  rw [this] at h
  cases h

set_option maxHeartbeats 1000000 in
set_option maxRecDepth 100000 in
theorem reportHost_bad (F : Interp) (s : ByteArray) (w : World) (hE : Env F w) (hs : s.size ≤ 1048576) (hv : Lib.validD s.data.toList = false) :
    Calls Tryf.prog 29 #[.string s] w fun e w' => ∃ r, e = .returned (.string r) ∧ Below w.heap.size w w' := by
  have hne := ne_of_invalid hv
  have hne2 : s.data.isEmpty = false := by
    cases hd : s.data.isEmpty with
    | false => rfl
    | true =>
      have h1 : s.data = #[] := by simpa using hd
      have : s.size = 0 := by show s.data.size = 0; rw [h1]; rfl
      omega
  have hne3 : s.toList.isEmpty = false := by
    rw [Lib.toList_data]
    cases hd : s.data.toList with
    | nil => rw [hd] at hv; cases hv
    | cons _ _ => rfl
  have HV : Hid _ := hv
  clear hv
  go_enter Tryf.func29, Tryf.ntmps29
  go_wp2_with fail
  refine (Tryf.utf8_ValidString s w (by omega) hE.tabs).mono ?_
  rintro e w1 ⟨rfl, hb⟩
  rw [HV.out]
  have hE1 := hE.below hb
  obtain ⟨T, hT⟩ := hE1.prints
  go_wp2_with fail
  refine (Tryf.strconv_Quote T s w1 (by omega) hT hE1.tabs).mono ?_
  rintro e w2 ⟨rfl, hb2⟩
  go_wp2
  go_ret
  exact ⟨_, rfl, hb.trans (hb2.mono hb.size)⟩

set_option maxHeartbeats 1000000 in
set_option maxRecDepth 100000 in
theorem checkName_ok (F : Interp) (s what : ByteArray) (w : World) (hE : Env F w) (hs : s.size ≤ 1048576) (h0 : s.size ≠ 0) (hv : Lib.validD s.data.toList = true) :
    Calls Tryf.prog 26 #[.string s, .string what] w fun e w' => e = .returned .nilIface ∧ Below w.heap.size w w' := by
  have HV : Hid _ := hv
  clear hv
  go_enter Tryf.func26, Tryf.ntmps26
  go_wp2_with fail
  refine (validUTF8_any s w hs hE.tabs).mono ?_
  rintro e w1 ⟨rfl, hb⟩
  rw [HV.out]
  go_wp2
  go_ret
  exact ⟨rfl, hb⟩

set_option maxHeartbeats 1000000 in
set_option maxRecDepth 100000 in
theorem checkName_bad (F : Interp) (s what : ByteArray) (w : World) (hE : Env F w) (hs : s.size ≤ 1048576) (h : s.size = 0 ∨ Lib.validD s.data.toList = false) :
    Calls Tryf.prog 26 #[.string s, .string what] w fun e w' => ∃ v, e = .returned v ∧ Err w' v ∧ Below w.heap.size w w' := by
  have hF' := answers_open hE.ans
  by_cases h0 : s.size = 0
  · go_enter Tryf.func26, Tryf.ntmps26
    go_wp2
    go_ret
    exact ⟨_, rfl, ⟨51, _, _, .inl rfl, rfl, err_cell _ _ _ _⟩, (((Below.refl _ w).alloc (Nat.le_refl _) _).alloc (by simp) _).drew⟩
  · have hv : Lib.validD s.data.toList = false := h.resolve_left h0
    have HV : Hid _ := hv
    clear hv h
    go_enter Tryf.func26, Tryf.ntmps26
    go_wp2_with fail
    refine (validUTF8_any s w hs hE.tabs).mono ?_
    rintro e w1 ⟨rfl, hb⟩
    rw [HV.out]
    have hE1 := hE.below hb
    go_wp2_with fail
    refine (reportHost_bad F s w1 hE1 hs HV.out).mono ?_
    rintro e w2 ⟨r, rfl, hb2⟩
    have hE2 := hE1.below hb2
    have hF2 := answers_open hE2.ans
    go_wp2
    go_ret
    have hs2 : w.heap.size ≤ w2.heap.size := Nat.le_trans hb.size hb2.size
    exact ⟨_, rfl, ⟨51, _, _, .inl rfl, rfl, err_cell _ _ _ _⟩, (((hb.trans (hb2.mono hb.size)).alloc hs2 _).alloc (by simp; omega) _).drew⟩

set_option maxHeartbeats 1000000 in
set_option maxRecDepth 100000 in
theorem checkProc_ok (F : Interp) (s : ByteArray) (w : World) (hE : Env F w) (hs : s.size ≤ 1048576) (h0 : s.size ≠ 0) (hv : Lib.validD s.data.toList = true) :
    Calls Tryf.prog 23 #[.string s] w fun e w' => e = .returned .nilIface ∧ Below w.heap.size w w' := by
  go_enter Tryf.func23, Tryf.ntmps23
  go_wp2_with fail
  refine (checkName_ok F s _ w hE hs h0 hv).mono ?_
  rintro e w1 ⟨rfl, hb⟩
  go_wp2
  go_ret
  exact ⟨rfl, hb⟩

set_option maxHeartbeats 1000000 in
set_option maxRecDepth 100000 in
theorem checkProc_bad (F : Interp) (s : ByteArray) (w : World) (hE : Env F w) (hs : s.size ≤ 1048576) (h : s.size = 0 ∨ Lib.validD s.data.toList = false) :
    Calls Tryf.prog 23 #[.string s] w fun e w' => ∃ v, e = .returned v ∧ Err w' v ∧ Below w.heap.size w w' := by
  go_enter Tryf.func23, Tryf.ntmps23
  go_wp2_with fail
  refine (checkName_bad F s _ w hE hs h).mono ?_
  rintro e w1 ⟨v, rfl, ⟨T, a, t, hT, rfl, hc⟩, hb⟩
  have hE1 := hE.below hb
  have hF' := answers_open hE1.ans
  have hlt := World.block_lt_of_cell? w1 a hc
  have hc1 : ∀ o, (w1.alloc o).cell? a = some (.string t) := fun o => by rw [World.cell?_of_block (w := w1) (Below.heap_alloc w1 o a.block hlt)]; exact hc
  rcases hT with rfl | rfl
  · have hop := fun o => opPlain51_119w "fmt.errorf" a t (w1.alloc o) (hc1 o)
    go_wp2
    go_ret
    exact ⟨_, rfl, ⟨48, _, _, .inr rfl, rfl, err_cell2 _ _ _ _ _⟩, ((hb.alloc hb.size _).alloc (by have := hb.size; simp; omega) _).drew⟩
  · have hop := fun o => opPlain48_119w "fmt.errorf" a t (w1.alloc o) (hc1 o)
    go_wp2
    go_ret
    exact ⟨_, rfl, ⟨48, _, _, .inr rfl, rfl, err_cell2 _ _ _ _ _⟩, ((hb.alloc hb.size _).alloc (by have := hb.size; simp; omega) _).drew⟩

end Go.Proofs.Qxb6616388aFmt
