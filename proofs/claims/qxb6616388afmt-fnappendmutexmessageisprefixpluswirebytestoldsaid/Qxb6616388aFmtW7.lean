/-
  The second law: messages are told apart.
-/
import Derived.Test.Qxb6616388aFmtW6
namespace Go.Proofs.Qxb6616388aFmt
open Go.RowKit Go.Extern.Stop Go.Stop Go.Extern

set_option maxHeartbeats 1000000 in
set_option maxRecDepth 100000 in
theorem hasPrefix_any (a b : Value) (A L : List UInt8) (w : World) (ha : Sees w a A) (hb : Sees w b L) (hL : 0 < L.length) :
    Calls Tryf.prog 13 #[a, b] w fun e w' => e = .returned (.bool (decide (A.take L.length = L))) ∧ ∃ q, w' = w.drewN q := by
  obtain ⟨g', off', c', rfl, hc1', hc2', hcell'⟩ : ∃ b1 off c, b = .slice (some ⟨b1, off, none⟩) L.length c ∧ L.length ≤ c ∧ c ≤ maxLen ∧ ∀ (j : Nat) x, L[j]? = some x → w.cell? ⟨b1, off + j, none⟩ = some (.int .u8 x.toNat) := by
    rcases hb with ⟨rfl, _⟩ | h
    · simp at hL
    · exact h
  by_cases hl : A.length < L.length
  · have hne : ¬ A.take L.length = L := fun e => by have := congrArg List.length e; simp at this; omega
    have D : Hid _ := decide_eq_false hne
    clear hne
    obtain ⟨ad, c, rfl⟩ : ∃ ad c, a = .slice ad A.length c := by
      rcases ha with ⟨rfl, ad, c, rfl⟩ | ⟨g, off, c, rfl, _⟩ <;> exact ⟨_, _, rfl⟩
    clear ha hcell'
    go_enter Tryf.func13, Tryf.ntmps13
    go_wp2
    go_ret
    exact ⟨ret_bool D.out.symm, 0, rfl⟩
  · obtain ⟨g, off, c, rfl, hc1, hc2, hcell⟩ : ∃ b1 off c, a = .slice (some ⟨b1, off, none⟩) A.length c ∧ A.length ≤ c ∧ c ≤ maxLen ∧ ∀ (j : Nat) x, A[j]? = some x → w.cell? ⟨b1, off + j, none⟩ = some (.int .u8 x.toNat) := by
      rcases ha with ⟨rfl, _⟩ | h
      · simp only [List.length_nil] at hl; omega
      · exact h
    have h1 : (L.length : Int) ≤ (c : Int) := by omega
    have ht : (A.take L.length).length = L.length := by simp; omega
    have hs1 : Sees w (.slice (some ⟨g, off, none⟩) L.length c) (A.take L.length) := .inr ⟨g, off, c, by rw [ht], by omega, hc2, fun j x hx => hcell j x (by
      rw [List.getElem?_take] at hx
      split at hx
      · exact hx
      · cases hx)⟩
    have hs2 : Sees w (.slice (some ⟨g', off', none⟩) L.length c') L := .inr ⟨g', off', c', rfl, hc1', hc2', hcell'⟩
    clear hcell hcell' ht
    go_enter Tryf.func13, Tryf.ntmps13
    go_wp2_with fail
    refine (equal_any _ _ _ _ w hs1 hs2).mono ?_
    rintro e w1 ⟨rfl, q, rfl⟩
    go_wp2
    go_ret
    exact ⟨rfl, q, rfl⟩

set_option maxHeartbeats 1000000 in
set_option maxRecDepth 100000 in
theorem bytes4_any (k1 : Int) (f1 t1 : ByteArray) (m1 k2 : Int) (f2 t2 : ByteArray) (m2 : Int) (w : World) (h1 : f1.size ≤ maxLen) (h2 : t1.size ≤ maxLen) (h3 : f2.size ≤ maxLen) (h4 : t2.size ≤ maxLen) :
    Calls Tryf.prog 11 #[.int .i64 k1, .string f1, .string t1, .int .u64 m1, .int .i64 k2, .string f2, .string t2, .int .u64 m2] w fun e w' => e = .returned (.bool (decide (f1.size + t1.size + f2.size + t2.size ≤ 1048576))) ∧ w' = w := by
  unfold maxLen at h1 h2 h3 h4
  go_enter Tryf.func11, Tryf.ntmps11
  go_wp2
  all_goals
    go_ret
    exact ⟨ret_bool (by rw [Bool.eq_iff_iff]; simp; try omega), rfl⟩

/-- the two messages are small enough -/
structure Fit (f1 t1 f2 t2 : ByteArray) : Prop where
  sum : f1.size + t1.size + f2.size + t2.size ≤ 1048576
  a : f1.size ≤ 262144
  b : t1.size ≤ 262144
  c : f2.size ≤ 262144
  d : t2.size ≤ 262144

theorem Own.form {B : Nat} {w : World} {v : Value} {L : List UInt8} (h : Own B w v L) (hL : 0 < L.length) :
    ∃ g cap, v = .slice (some ⟨g, 0, none⟩) L.length cap ∧ B ≤ g ∧ g < w.heap.size ∧ L.length ≤ cap ∧ cap ≤ maxLen ∧ ∀ (j : Nat) x, L[j]? = some x → w.cell? ⟨g, 0 + j, none⟩ = some (.int .u8 x.toNat) := by
  have hlt := h.block
  rcases h.2 with ⟨rfl, h0⟩ | ⟨g, cap, cur, rfl, hb, hg, hnc, hcm, hcs, ht⟩
  · omega
  · refine ⟨g, cap, rfl, hb, (hlt g rfl).2, hnc, hcm, fun j x hx => ?_⟩
    have := World.ownsRow.cells h (g := g) rfl j (.int .u8 x.toNat) (by simp [Lib.byteCells, hx])
    have e : (⟨g, 0, none⟩ : Addr).add j = ⟨g, 0 + j, none⟩ := by unfold Addr.add; split <;> simp_all
    rw [e] at this
    exact this

theorem str_ne {a b : ByteArray} (h : a ≠ b) : (a.toList == b.toList) = false := by
  rw [Lib.toList_data, Lib.toList_data, beq_eq_false_iff_ne]
  intro e
  apply h
  cases a; cases b
  simp only [ByteArray.mk.injEq]
  exact Array.ext' e

set_option maxHeartbeats 4000000 in
set_option maxRecDepth 100000 in
theorem fn4_nn (F : Interp) (k1 : Int) (k2 : Int) (tm1 tm2 : Nat) (_htm1 : tm1 < 18446744073709551616) (_htm2 : tm2 < 18446744073709551616) (f1 t1 f2 t2 : ByteArray) (w : World) (hE : Env F w) (fit : Fit f1 t1 f2 t2) (ha : accB k1 f1 t1 = false) (hb : accB k2 f2 t2 = false) (hn1 : ¬ (1 ≤ k1 ∧ k1 ≤ 3 ∧ Ok f1 ∧ Ok t1)) (hn2 : ¬ (1 ≤ k2 ∧ k2 ≤ 3 ∧ Ok f2 ∧ Ok t2)) :
    Calls Tryf.prog 4 #[.int .i64 k1, .string f1, .string t1, .int .u64 tm1, .int .i64 k2, .string f2, .string t2, .int .u64 tm2] w fun e w' => e = .returned (.bool true) ∧ Below w.heap.size w w' := by
  obtain ⟨s0, s1, s2, s3, s4⟩ := fit
  have HA : Hid _ := ha
  have HB : Hid _ := hb
  clear ha hb
  have hb0 := ((Below.refl w.heap.size w).alloc (Nat.le_refl _) (.cells #[Value.int IntKind.i64 k1, .string f1, .string t1, .int .u64 tm1] 28)).alloc (by simp) (.cells #[Value.int IntKind.i64 k2, .string f2, .string t2, .int .u64 tm2] 28)
  have hE0 := hE.below hb0
  go_enter Tryf.func4, Tryf.ntmps4
  go_wp2_with fail
  refine (bytes4_any k1 f1 t1 tm1 k2 f2 t2 tm2 w (by unfold maxLen; omega) (by unfold maxLen; omega) (by unfold maxLen; omega) (by unfold maxLen; omega)).mono ?_
  rintro e w ⟨rfl, rfl⟩
  rw [decide_eq_true s0]
  go_wp2_with fail
  refine (accepted_any k1 f1 t1 w (by omega) (by omega)).mono ?_
  rintro e w ⟨rfl, rfl⟩
  rw [HA.out]
  go_wp2_with fail
  refine (accepted_any k2 f2 t2 w (by omega) (by omega)).mono ?_
  rintro e w ⟨rfl, rfl⟩
  rw [HB.out]
  go_wp2_with fail
  refine (app_bad F k1 tm1 f1 t1 _ _ hE0 (by omega) (by omega) hn1).mono ?_
  rintro e w1 ⟨x1, rfl, ⟨T1, a1, e1, hT1, rfl, hc1⟩, hb1⟩
  have d : ∀ j, j < 4 → w1.cell? ⟨w.heap.size + 1, j, none⟩ = (#[Value.int IntKind.i64 k2, .string f2, .string t2, .int .u64 tm2])[j]? := fun j _ => by
    rw [hb1.cell (by simp)]
    simp
  have c0 := d 0 (by omega)
  have c1 := d 1 (by omega)
  have c2 := d 2 (by omega)
  have c3 := d 3 (by omega)
  simp at c0 c1 c2 c3
  clear d
  have hE1 := hE0.below hb1
  have hb01 := hb0.trans (hb1.mono hb0.size)
  go_wp2_with fail
  refine (app_bad F k2 tm2 f2 t2 _ _ hE1 (by omega) (by omega) hn2).mono ?_
  rintro e w2 ⟨x2, rfl, ⟨T2, a2, e2, hT2, rfl, hc2⟩, hb2⟩
  have hb02 := hb01.trans (hb2.mono hb01.size)
  go_wp2
  go_ret
  exact ⟨rfl, hb02⟩

set_option maxHeartbeats 4000000 in
set_option maxRecDepth 100000 in
theorem fn4_yn (F : Interp) (n1 : Nat) (k2 : Int) (tm1 tm2 : Nat) (htm1 : tm1 < 18446744073709551616) (_htm2 : tm2 < 18446744073709551616) (f1 t1 f2 t2 : ByteArray) (w : World) (hE : Env F w) (fit : Fit f1 t1 f2 t2) (ha : accB n1 f1 t1 = true) (hb : accB k2 f2 t2 = false) (hk1 : 1 ≤ n1) (hk1' : n1 ≤ 3) (of1 : Ok f1) (ot1 : Ok t1) (hn2 : ¬ (1 ≤ k2 ∧ k2 ≤ 3 ∧ Ok f2 ∧ Ok t2)) :
    Calls Tryf.prog 4 #[.int .i64 n1, .string f1, .string t1, .int .u64 tm1, .int .i64 k2, .string f2, .string t2, .int .u64 tm2] w fun e w' => e = .returned (.bool true) ∧ Below w.heap.size w w' := by
  obtain ⟨s0, s1, s2, s3, s4⟩ := fit
  have HA : Hid _ := ha
  have HB : Hid _ := hb
  clear ha hb
  have hb0 := ((Below.refl w.heap.size w).alloc (Nat.le_refl _) (.cells #[Value.int IntKind.i64 n1, .string f1, .string t1, .int .u64 tm1] 28)).alloc (by simp) (.cells #[Value.int IntKind.i64 k2, .string f2, .string t2, .int .u64 tm2] 28)
  have hE0 := hE.below hb0
  go_enter Tryf.func4, Tryf.ntmps4
  go_wp2_with fail
  refine (bytes4_any n1 f1 t1 tm1 k2 f2 t2 tm2 w (by unfold maxLen; omega) (by unfold maxLen; omega) (by unfold maxLen; omega) (by unfold maxLen; omega)).mono ?_
  rintro e w ⟨rfl, rfl⟩
  rw [decide_eq_true s0]
  go_wp2_with fail
  refine (accepted_any n1 f1 t1 w (by omega) (by omega)).mono ?_
  rintro e w ⟨rfl, rfl⟩
  rw [HA.out]
  go_wp2_with fail
  refine (accepted_any k2 f2 t2 w (by omega) (by omega)).mono ?_
  rintro e w ⟨rfl, rfl⟩
  rw [HB.out]
  go_wp2_with fail
  refine (app_ok F n1 tm1 f1 t1 _ [] _ hE0 (by omega) (by omega) htm1 hk1 hk1' of1 ot1 (.inl ⟨rfl, rfl⟩) (by simp)).mono ?_
  rintro e w1 ⟨v1, rfl, hown1, hb1⟩
  have d : ∀ j, j < 4 → w1.cell? ⟨w.heap.size + 1, j, none⟩ = (#[Value.int IntKind.i64 k2, .string f2, .string t2, .int .u64 tm2])[j]? := fun j _ => by
    rw [hb1.cell (by simp)]
    simp
  have c0 := d 0 (by omega)
  have c1 := d 1 (by omega)
  have c2 := d 2 (by omega)
  have c3 := d 3 (by omega)
  simp at c0 c1 c2 c3
  clear d
  have hE1 := hE0.below hb1
  have hb01 := hb0.trans (hb1.mono hb0.size)
  go_wp2_with fail
  refine (app_bad F k2 tm2 f2 t2 _ _ hE1 (by omega) (by omega) hn2).mono ?_
  rintro e w2 ⟨x2, rfl, ⟨T2, a2, e2, hT2, rfl, hc2⟩, hb2⟩
  have hb02 := hb01.trans (hb2.mono hb01.size)
  go_wp2
  go_ret
  exact ⟨rfl, hb02⟩

set_option maxHeartbeats 4000000 in
set_option maxRecDepth 100000 in
theorem fn4_ny (F : Interp) (k1 : Int) (n2 : Nat) (tm1 tm2 : Nat) (_htm1 : tm1 < 18446744073709551616) (htm2 : tm2 < 18446744073709551616) (f1 t1 f2 t2 : ByteArray) (w : World) (hE : Env F w) (fit : Fit f1 t1 f2 t2) (ha : accB k1 f1 t1 = false) (hb : accB n2 f2 t2 = true) (hn1 : ¬ (1 ≤ k1 ∧ k1 ≤ 3 ∧ Ok f1 ∧ Ok t1)) (hk2 : 1 ≤ n2) (hk2' : n2 ≤ 3) (of2 : Ok f2) (ot2 : Ok t2) :
    Calls Tryf.prog 4 #[.int .i64 k1, .string f1, .string t1, .int .u64 tm1, .int .i64 n2, .string f2, .string t2, .int .u64 tm2] w fun e w' => e = .returned (.bool true) ∧ Below w.heap.size w w' := by
  obtain ⟨s0, s1, s2, s3, s4⟩ := fit
  have HA : Hid _ := ha
  have HB : Hid _ := hb
  clear ha hb
  have hb0 := ((Below.refl w.heap.size w).alloc (Nat.le_refl _) (.cells #[Value.int IntKind.i64 k1, .string f1, .string t1, .int .u64 tm1] 28)).alloc (by simp) (.cells #[Value.int IntKind.i64 n2, .string f2, .string t2, .int .u64 tm2] 28)
  have hE0 := hE.below hb0
  go_enter Tryf.func4, Tryf.ntmps4
  go_wp2_with fail
  refine (bytes4_any k1 f1 t1 tm1 n2 f2 t2 tm2 w (by unfold maxLen; omega) (by unfold maxLen; omega) (by unfold maxLen; omega) (by unfold maxLen; omega)).mono ?_
  rintro e w ⟨rfl, rfl⟩
  rw [decide_eq_true s0]
  go_wp2_with fail
  refine (accepted_any k1 f1 t1 w (by omega) (by omega)).mono ?_
  rintro e w ⟨rfl, rfl⟩
  rw [HA.out]
  go_wp2_with fail
  refine (accepted_any n2 f2 t2 w (by omega) (by omega)).mono ?_
  rintro e w ⟨rfl, rfl⟩
  rw [HB.out]
  go_wp2_with fail
  refine (app_bad F k1 tm1 f1 t1 _ _ hE0 (by omega) (by omega) hn1).mono ?_
  rintro e w1 ⟨x1, rfl, ⟨T1, a1, e1, hT1, rfl, hc1⟩, hb1⟩
  have d : ∀ j, j < 4 → w1.cell? ⟨w.heap.size + 1, j, none⟩ = (#[Value.int IntKind.i64 n2, .string f2, .string t2, .int .u64 tm2])[j]? := fun j _ => by
    rw [hb1.cell (by simp)]
    simp
  have c0 := d 0 (by omega)
  have c1 := d 1 (by omega)
  have c2 := d 2 (by omega)
  have c3 := d 3 (by omega)
  simp at c0 c1 c2 c3
  clear d
  have hE1 := hE0.below hb1
  have hb01 := hb0.trans (hb1.mono hb0.size)
  go_wp2_with fail
  refine (app_ok F n2 tm2 f2 t2 _ [] _ hE1 (by omega) (by omega) htm2 hk2 hk2' of2 ot2 (.inl ⟨rfl, rfl⟩) (by simp)).mono ?_
  rintro e w2 ⟨v2, rfl, hown2, hb2⟩
  have hb02 := hb01.trans (hb2.mono hb01.size)
  go_wp2
  go_ret
  exact ⟨rfl, hb02⟩

end Go.Proofs.Qxb6616388aFmt
