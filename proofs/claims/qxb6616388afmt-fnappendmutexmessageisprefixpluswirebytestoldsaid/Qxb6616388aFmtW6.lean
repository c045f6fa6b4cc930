/-
  AppendMutexMessage, zzAccepted, zzEncodedLen, zzHasPrefix, the bounds.
-/
import Derived.Test.Qxb6616388aFmtW5
namespace Go.Proofs.Qxb6616388aFmt
open Go.RowKit Go.Extern.Stop Go.Stop Go.Extern
attribute [local go_sem] call21 fmtGuard kind_p kind_r kind_p0 kind_r0 op3_100w op9_115w ptr51 elem51 isError51 ptr48 elem48 isError48

theorem size_ne {s : ByteArray} (h : s.size ≠ 0) : s.toList.isEmpty = false := by
  rw [Lib.toList_data]
  cases hd : s.data.toList with
  | nil =>
    have : s.size = 0 := by
      have := congrArg List.length hd
      simpa using this
    omega
  | cons _ _ => rfl
theorem size_eq {s : ByteArray} (h : s.size = 0) : s.toList.isEmpty = true := by
  rw [Lib.toList_data]
  cases hd : s.data.toList with
  | nil => rfl
  | cons _ _ =>
    have := congrArg List.length hd
    simp at this
    omega

theorem err_cell3 (w : World) (o o2 : Obj) (t : ByteArray) (T : Nat) : (((w.alloc o).alloc o2).alloc (.cells #[.string t] T)).drew.cell? ⟨w.heap.size + 1 + 1, 0, none⟩ = some (.string t) := by
  show (((w.alloc o).alloc o2).alloc (.cells #[.string t] T)).cell? ⟨w.heap.size + 1 + 1, 0, none⟩ = _
  rw [World.cell?_alloc_at (w := (w.alloc o).alloc o2) _ _ _ _ (by simp)]
  rfl

theorem known_any (k : Int) (w : World) : Calls Tryf.prog 14 #[.int .i64 k] w fun e w' => e = .returned (.bool (decide (1 ≤ k ∧ k ≤ 3))) ∧ w' = w := by
  by_cases h1 : 1 ≤ k
  · by_cases h2 : k ≤ 3
    · rw [decide_eq_true (p := 1 ≤ k ∧ k ≤ 3) ⟨h1, h2⟩]
      go_enter Tryf.func14, Tryf.ntmps14
      go_wp2
      go_ret
      exact ⟨rfl, rfl⟩
    · rw [decide_eq_false (p := 1 ≤ k ∧ k ≤ 3) (fun h => h2 h.2)]
      have d : decide (k ≤ 3) = false := decide_eq_false h2
      go_enter Tryf.func14, Tryf.ntmps14
      go_wp2
      go_ret
      exact ⟨rfl, rfl⟩
  · rw [decide_eq_false (p := 1 ≤ k ∧ k ≤ 3) (fun h => h1 h.1)]
    have d : decide (1 ≤ k) = false := decide_eq_false h1
    go_enter Tryf.func14, Tryf.ntmps14
    go_wp2
    go_ret
    exact ⟨rfl, rfl⟩

set_option maxHeartbeats 1000000 in
set_option maxRecDepth 100000 in
theorem app_ok (F : Interp) (k tm : Nat) (f t : ByteArray) (v : Value) (L : List UInt8) (w : World) (hE : Env F w) (hf : f.size ≤ 1048576) (ht : t.size ≤ 1048576) (htm : tm < 18446744073709551616)
    (hk1 : 1 ≤ k) (hk3 : k ≤ 3) (of : Ok f) (ot : Ok t) (hv : Full w v L) (hl : L.length ≤ 1048576) :
    Calls Tryf.prog 7 #[v, .agg #[.int .i64 k, .string f, .string t, .int .u64 tm]] w fun e w' => ∃ v', e = .returned (.tuple #[v', .nilIface]) ∧ Own w.heap.size w' v' (L ++ Pl.wire k f.data.toList t.data.toList tm) ∧ Below w.heap.size w w' := by
  have hb0 := ((Below.refl w.heap.size w).alloc (Nat.le_refl _) (.cells #[.int .i64 k, .string f, .string t, .int .u64 tm] 28)).alloc (by simp) (.cells #[.int .u8 k, .string f, .string t, .int .u64 tm] 41)
  have hE0 := hE.below hb0
  go_enter Tryf.func7, Tryf.ntmps7
  go_wp2_with fail
  refine (known_any k _).mono ?_
  rintro e w0 ⟨rfl, rfl⟩
  rw [decide_eq_true (p := 1 ≤ (k : Int) ∧ (k : Int) ≤ 3) (by omega)]
  go_wp2_with fail
  refine (checkNames_ok F k tm f t _ _ hE0 hf ht of ot).mono ?_
  rintro e w1 ⟨rfl, hb1⟩
  have d : ∀ j, j < 4 → w1.cell? ⟨w.heap.size + 1, j, none⟩ = (#[Value.int .u8 k, .string f, .string t, .int .u64 tm])[j]? := fun j _ => by
    rw [hb1.cell (by simp)]
    simp
  have c0 := d 0 (by omega)
  have c1 := d 1 (by omega)
  have c2 := d 2 (by omega)
  have c3 := d 3 (by omega)
  simp at c0 c1 c2 c3
  clear d
  have hb := hb0.trans (hb1.mono (by simp; omega))
  have hv1 := hv.below hb
  go_wp2_with fail
  refine (headAppend_any k (by omega) f t hf ht tm htm v L _ hv1 hl).mono ?_
  rintro e w2 ⟨v2, rfl, hown, hb2⟩
  go_wp2
  go_ret2
  exact ⟨v2, rfl, hown.base hb.size, hb.trans (hb2.mono hb.size)⟩

set_option maxHeartbeats 1000000 in
set_option maxRecDepth 100000 in
theorem app_kind (F : Interp) (k tm : Int) (f t : ByteArray) (v : Value) (w : World) (hE : Env F w) (hk : k < 1 ∨ 3 < k) :
    Calls Tryf.prog 7 #[v, .agg #[.int .i64 k, .string f, .string t, .int .u64 tm]] w fun e w' => ∃ x, e = .returned (.tuple #[v, x]) ∧ Err w' x ∧ Below w.heap.size w w' := by
  have hF' := answers_open hE.ans
  go_enter Tryf.func7, Tryf.ntmps7
  go_wp2_with fail
  refine (known_any k _).mono ?_
  rintro e w0 ⟨rfl, rfl⟩
  rw [decide_eq_false (p := 1 ≤ k ∧ k ≤ 3) (by omega)]
  go_wp2
  go_ret2
  exact ⟨_, rfl, ⟨51, _, _, .inl rfl, rfl, err_cell3 _ _ _ _ _⟩, ((((Below.refl _ w).alloc (Nat.le_refl _) _).alloc (by simp) _).alloc (by simp; omega) _).drew⟩

set_option maxHeartbeats 1000000 in
set_option maxRecDepth 100000 in
theorem app_name (F : Interp) (k tm : Nat) (f t : ByteArray) (v : Value) (w : World) (hE : Env F w) (hf : f.size ≤ 1048576) (ht : t.size ≤ 1048576)
    (hk1 : 1 ≤ k) (hk3 : k ≤ 3) (h : ¬ (Ok f ∧ Ok t)) :
    Calls Tryf.prog 7 #[v, .agg #[.int .i64 k, .string f, .string t, .int .u64 tm]] w fun e w' => ∃ x, e = .returned (.tuple #[v, x]) ∧ Err w' x ∧ Below w.heap.size w w' := by
  have hb0 := ((Below.refl w.heap.size w).alloc (Nat.le_refl _) (.cells #[.int .i64 k, .string f, .string t, .int .u64 tm] 28)).alloc (by simp) (.cells #[.int .u8 k, .string f, .string t, .int .u64 tm] 41)
  have hE0 := hE.below hb0
  go_enter Tryf.func7, Tryf.ntmps7
  go_wp2_with fail
  refine (known_any k _).mono ?_
  rintro e w0 ⟨rfl, rfl⟩
  rw [decide_eq_true (p := 1 ≤ (k : Int) ∧ (k : Int) ≤ 3) (by omega)]
  go_wp2_with fail
  refine (checkNames_bad F k tm f t _ _ hE0 hf ht h).mono ?_
  rintro e w1 ⟨x, rfl, ⟨T, a, s, hT, rfl, hc⟩, hb1⟩
  have hb := hb0.trans (hb1.mono (by simp; omega))
  go_wp2
  go_ret2
  exact ⟨_, rfl, ⟨T, a, s, hT, rfl, hc⟩, hb⟩

/-- all that is refused -/
theorem app_bad (F : Interp) (k : Int) (tm : Nat) (f t : ByteArray) (v : Value) (w : World) (hE : Env F w) (hf : f.size ≤ 1048576) (ht : t.size ≤ 1048576)
    (h : ¬ (1 ≤ k ∧ k ≤ 3 ∧ Ok f ∧ Ok t)) :
    Calls Tryf.prog 7 #[v, .agg #[.int .i64 k, .string f, .string t, .int .u64 tm]] w fun e w' => ∃ x, e = .returned (.tuple #[v, x]) ∧ Err w' x ∧ Below w.heap.size w w' := by
  by_cases hk : 1 ≤ k ∧ k ≤ 3
  · obtain ⟨n, rfl⟩ : ∃ n : Nat, k = n := ⟨k.toNat, by omega⟩
    exact app_name F n tm f t v w hE hf ht (by omega) (by omega) (fun hh => h ⟨hk.1, hk.2, hh.1, hh.2⟩)
  · exact app_kind F k tm f t v w hE (by omega)

def okB (s : ByteArray) : Bool := !s.toList.isEmpty && Lib.validD s.data.toList
theorem okB_iff (s : ByteArray) : okB s = true ↔ Ok s := by
  unfold okB Ok
  by_cases h : s.size = 0
  · simp [size_eq h, h]
  · simp [size_ne h, h]

def accB (k : Int) (f t : ByteArray) : Bool := decide (1 ≤ k) && decide (k ≤ 3) && okB f && okB t
theorem accB_iff (k : Int) (f t : ByteArray) : accB k f t = true ↔ (1 ≤ k ∧ k ≤ 3 ∧ Ok f ∧ Ok t) := by
  simp [accB, okB_iff, and_assoc]

set_option maxHeartbeats 2000000 in
set_option maxRecDepth 100000 in
theorem accepted_any (k : Int) (f t : ByteArray) (w : World) (hf : f.size ≤ 1048576) (ht : t.size ≤ 1048576) :
    Calls Tryf.prog 8 #[.int .i64 k, .string f, .string t] w fun e w' => e = .returned (.bool (accB k f t)) ∧ w' = w := by
  by_cases h1 : 1 ≤ k
  · by_cases h2 : k ≤ 3
    · by_cases h3 : f.size = 0
      · have e3 := size_eq h3
        have d : accB k f t = false := by simp [accB, okB, e3]
        have D : Hid _ := d
        clear d
        go_enter Tryf.func8, Tryf.ntmps8
        go_wp2
        go_ret
        exact ⟨ret_bool D.out.symm, rfl⟩
      · have e3 := size_ne h3
        by_cases h4 : t.size = 0
        · have e4 := size_eq h4
          have d : accB k f t = false := by simp [accB, okB, e4]
          have D : Hid _ := d
          clear d
          go_enter Tryf.func8, Tryf.ntmps8
          go_wp2
          go_ret
          exact ⟨ret_bool D.out.symm, rfl⟩
        · have e4 := size_ne h4
          cases h5 : Lib.validD f.data.toList with
          | false =>
            have d : accB k f t = false := by simp [accB, okB, h5]
            have D : Hid _ := d
            have H5 : Hid _ := h5
            clear d h5
            go_enter Tryf.func8, Tryf.ntmps8
            go_wp2_with fail
            refine (zzValid_any f w hf).mono ?_
            rintro e w ⟨rfl, rfl⟩
            rw [H5.out]
            go_wp2
            go_ret
            exact ⟨ret_bool D.out.symm, rfl⟩
          | true =>
            have d : accB k f t = Lib.validD t.data.toList := by simp [accB, okB, h5, h1, h2, e3, e4]
            have D : Hid _ := d
            have H5 : Hid _ := h5
            clear d h5
            go_enter Tryf.func8, Tryf.ntmps8
            go_wp2_with fail
            refine (zzValid_any f w hf).mono ?_
            rintro e w ⟨rfl, rfl⟩
            rw [H5.out]
            go_wp2_with fail
            refine (zzValid_any t w ht).mono ?_
            rintro e w ⟨rfl, rfl⟩
            go_wp2
            go_ret
            exact ⟨ret_bool D.out.symm, rfl⟩
    · have e2 : decide (k ≤ 3) = false := decide_eq_false h2
      have d : accB k f t = false := by simp [accB, h2]
      have D : Hid _ := d
      clear d
      go_enter Tryf.func8, Tryf.ntmps8
      go_wp2
      go_ret
      exact ⟨ret_bool D.out.symm, rfl⟩
  · have e1 : decide (1 ≤ k) = false := decide_eq_false h1
    have d : accB k f t = false := by simp [accB, h1]
    have D : Hid _ := d
    clear d
    go_enter Tryf.func8, Tryf.ntmps8
    go_wp2
    go_ret
    exact ⟨ret_bool D.out.symm, rfl⟩

set_option maxHeartbeats 1000000 in
set_option maxRecDepth 100000 in
theorem encodedLen_any (f t : ByteArray) (tm : Nat) (w : World) (hf : f.size ≤ 1048576) (ht : t.size ≤ 1048576) (htm : tm < 18446744073709551616) :
    Calls Tryf.prog 12 #[.string f, .string t, .int .u64 tm] w fun e w' => e = .returned (.int .i64 (Pl.wire 0 f.data.toList t.data.toList tm).length) ∧ w' = w := by
  have u1 := Lib.uvarint_length64 (x := f.size) (by omega)
  have u2 := Lib.uvarint_length64 (x := t.size) (by omega)
  have u3 := Lib.uvarint_length64 (x := tm) htm
  have hl := Pl.wire_length 0 f.data.toList t.data.toList tm
  have hfl : f.data.toList.length = f.size := by simp
  have htl : t.data.toList.length = t.size := by simp
  rw [hfl, htl] at hl
  have HL : Hid _ := hl
  clear hl hfl htl
  go_enter Tryf.func12, Tryf.ntmps12
  go_wp2_with fail
  refine (varLen_any f.size (by omega) w).mono ?_
  rintro e w ⟨rfl, rfl⟩
  go_wp2_with fail
  refine (varLen_any t.size (by omega) w).mono ?_
  rintro e w ⟨rfl, rfl⟩
  go_wp2_with fail
  refine (varLen_any tm htm w).mono ?_
  rintro e w ⟨rfl, rfl⟩
  go_wp2
  go_ret
  refine ⟨ret_int ?_, rfl⟩
  rw [HL.out]
  omega

end Go.Proofs.Qxb6616388aFmt
