/-
  The second law where both messages are taken.
-/
import Derived.Test.Qxb6616388aFmtW7
namespace Go.Proofs.Qxb6616388aFmt
open Go.RowKit Go.Extern.Stop Go.Stop Go.Extern

theorem wire_at0 (k : Nat) (f t : List UInt8) (tm : Nat) : (Pl.wire k f t tm)[0]? = some 3 := rfl
theorem wire_at1 (k : Nat) (f t : List UInt8) (tm : Nat) : (Pl.wire k f t tm)[1]? = some k.toUInt8 := rfl
theorem wire_two (k : Nat) (f t : List UInt8) (tm : Nat) : 2 ≤ (Pl.wire k f t tm).length := by rw [Pl.wire_length]; omega
theorem wire_len0 (k : Nat) (f t : List UInt8) (tm : Nat) : (Pl.wire 0 f t tm).length = (Pl.wire k f t tm).length := by rw [Pl.wire_length, Pl.wire_length]
theorem wire_small (k : Nat) (f t : ByteArray) (tm : Nat) (hf : f.size ≤ 1048576) (ht : t.size ≤ 1048576) (htm : tm < 18446744073709551616) : (Pl.wire k f.data.toList t.data.toList tm).length ≤ 3000000 := by
  have u1 := Lib.uvarint_length64 (x := f.size) (by omega)
  have u2 := Lib.uvarint_length64 (x := t.size) (by omega)
  have u3 := Lib.uvarint_length64 (x := tm) htm
  have hfl : f.data.toList.length = f.size := by simp
  have htl : t.data.toList.length = t.size := by simp
  rw [Pl.wire_length, hfl, htl]
  omega
theorem wire_same {k k' : Nat} {f t f' t' : ByteArray} {tm tm' : Nat} (hk : k < 256) (hk' : k' < 256) (h : (Pl.wire k' f'.data.toList t'.data.toList tm').take (Pl.wire k f.data.toList t.data.toList tm).length = Pl.wire k f.data.toList t.data.toList tm) :
    k = k' ∧ f = f' ∧ t = t' ∧ tm = tm' := by
  have e := List.take_append_drop (Pl.wire k f.data.toList t.data.toList tm).length (Pl.wire k' f'.data.toList t'.data.toList tm')
  rw [h] at e
  obtain ⟨h1, h2, h3, h4, _⟩ := Pl.wire_split hk hk' e
  refine ⟨h1, ?_, ?_, h4⟩
  · cases f; cases f'; simp only [ByteArray.mk.injEq]; exact Array.ext' h2
  · cases t; cases t'; simp only [ByteArray.mk.injEq]; exact Array.ext' h3

set_option maxHeartbeats 4000000 in
set_option maxRecDepth 100000 in
theorem fn4_yy (F : Interp) (n1 : Nat) (n2 : Nat) (tm1 tm2 : Nat) (htm1 : tm1 < 18446744073709551616) (htm2 : tm2 < 18446744073709551616) (f1 t1 f2 t2 : ByteArray) (w : World) (hE : Env F w) (fit : Fit f1 t1 f2 t2) (ha : accB n1 f1 t1 = true) (hb : accB n2 f2 t2 = true) (hk1 : 1 ≤ n1) (hk1' : n1 ≤ 3) (of1 : Ok f1) (ot1 : Ok t1) (hk2 : 1 ≤ n2) (hk2' : n2 ≤ 3) (of2 : Ok f2) (ot2 : Ok t2) :
    Calls Tryf.prog 4 #[.int .i64 n1, .string f1, .string t1, .int .u64 tm1, .int .i64 n2, .string f2, .string t2, .int .u64 tm2] w fun e w' => e = .returned (.bool true) ∧ Below w.heap.size w w' := by
  obtain ⟨s0, s1, s2, s3, s4⟩ := fit
  have HA : Hid _ := ha
  have HB : Hid _ := hb
  clear ha hb
  have hb0 := ((Below.refl w.heap.size w).alloc (Nat.le_refl _) (.cells #[Value.int IntKind.i64 n1, .string f1, .string t1, .int .u64 tm1] 28)).alloc (by simp) (.cells #[Value.int IntKind.i64 n2, .string f2, .string t2, .int .u64 tm2] 28)
  have hE0 := hE.below hb0
  go_enter Tryf.func4, Tryf.ntmps4
  go_wp2_with fail
  refine (bytes4_any n1 f1 t1 tm1 n2 f2 t2 tm2 w (by unfold maxLen; omega) (by unfold maxLen; omega) (by unfold maxLen; omega) (by unfold maxLen; omega)).mono ?_
  rintro e w ⟨rfl, rfl⟩
  rw [decide_eq_true s0]
  go_wp2_with fail
  refine (accepted_any n1 f1 t1 w (by omega) (by omega)).mono ?_
  rintro e w ⟨rfl, rfl⟩
  rw [HA.out]
  go_wp2_with fail
  refine (accepted_any n2 f2 t2 w (by omega) (by omega)).mono ?_
  rintro e w ⟨rfl, rfl⟩
  rw [HB.out]
  go_wp2_with fail
  refine (app_ok F n1 tm1 f1 t1 _ [] _ hE0 (by omega) (by omega) htm1 hk1 hk1' of1 ot1 (.inl ⟨rfl, rfl⟩) (by simp)).mono ?_
  rintro e w1 ⟨v1, rfl, hown1, hb1⟩
  have d : ∀ j, j < 4 → w1.cell? ⟨w.heap.size + 1, j, none⟩ = (#[Value.int IntKind.i64 n2, .string f2, .string t2, .int .u64 tm2])[j]? := fun j _ => by
    rw [hb1.cell (by simp)]
    simp
  have c0 := d 0 (by omega)
  have c1 := d 1 (by omega)
  have c2 := d 2 (by omega)
  have c3 := d 3 (by omega)
  simp at c0 c1 c2 c3
  clear d
  have hE1 := hE0.below hb1
  have hb01 := hb0.trans (hb1.mono hb0.size)
  go_wp2_with fail
  refine (app_ok F n2 tm2 f2 t2 _ [] _ hE1 (by omega) (by omega) htm2 hk2 hk2' of2 ot2 (.inl ⟨rfl, rfl⟩) (by simp)).mono ?_
  rintro e w2 ⟨v2, rfl, hown2, hb2⟩
  have hb02 := hb01.trans (hb2.mono hb01.size)
  simp only [List.nil_append] at hown1 hown2
  have l1 := wire_two n1 f1.data.toList t1.data.toList tm1
  have l2 := wire_two n2 f2.data.toList t2.data.toList tm2
  have m1 := wire_small n1 f1 t1 tm1 (by omega) (by omega) htm1
  have m2 := wire_small n2 f2 t2 tm2 (by omega) (by omega) htm2
  have z1 := wire_len0 n1 f1.data.toList t1.data.toList tm1
  have z2 := wire_len0 n2 f2.data.toList t2.data.toList tm2
  have a10 := wire_at0 n1 f1.data.toList t1.data.toList tm1
  have a11 := wire_at1 n1 f1.data.toList t1.data.toList tm1
  have a20 := wire_at0 n2 f2.data.toList t2.data.toList tm2
  have a21 := wire_at1 n2 f2.data.toList t2.data.toList tm2
  have p12 := wire_same (k := n1) (k' := n2) (f := f1) (f' := f2) (t := t1) (t' := t2) (tm := tm1) (tm' := tm2) (by omega) (by omega)
  have p21 := wire_same (k := n2) (k' := n1) (f := f2) (f' := f1) (t := t2) (t' := t1) (tm := tm2) (tm' := tm1) (by omega) (by omega)
  have psame : n1 = n2 ∧ f1 = f2 ∧ t1 = t2 ∧ tm1 = tm2 → Pl.wire n1 f1.data.toList t1.data.toList tm1 = Pl.wire n2 f2.data.toList t2.data.toList tm2 := by
    rintro ⟨rfl, rfl, rfl, rfl⟩
    rfl
  generalize Pl.wire n1 f1.data.toList t1.data.toList tm1 = W1 at *
  generalize Pl.wire n2 f2.data.toList t2.data.toList tm2 = W2 at *
  obtain ⟨g1, q1, rfl, hg1, hg1', hq1, hq1', hcell1⟩ := hown1.form (by omega)
  obtain ⟨g2, q2, rfl, hg2, hg2', hq2, hq2', hcell2⟩ := hown2.form (by omega)
  have hS1 : Sees w2 (.slice (some ⟨g1, 0, none⟩) W1.length q1) W1 := hown1.sees.below hb2 (fun k hk => by cases hk; exact hg1')
  have hS2 : Sees w2 (.slice (some ⟨g2, 0, none⟩) W2.length q2) W2 := hown2.sees
  have b10 : w2.cell? ⟨g1, 0, none⟩ = some (.int .u8 3) := by
    rw [hb2.cell hg1']
    exact hcell1 0 3 a10
  have b11 : w2.cell? ⟨g1, 1, none⟩ = some (.int .u8 n1) := by
    rw [hb2.cell hg1']
    have := hcell1 1 _ a11
    rw [this]
    simp
    omega
  have b20 : w2.cell? ⟨g2, 0, none⟩ = some (.int .u8 3) := hcell2 0 3 a20
  have b21 : w2.cell? ⟨g2, 1, none⟩ = some (.int .u8 n2) := by
    have := hcell2 1 _ a21
    rw [this]
    simp
    omega
  have P12 : Hid _ := p12
  have P21 : Hid _ := p21
  have PS : Hid _ := psame
  have Z1 : Hid _ := z1
  have Z2 : Hid _ := z2
  clear p12 p21 psame z1 z2 hcell1 hcell2 hown1 hown2 a10 a11 a20 a21 c0 c1 c2 c3 hE0 hE1 hE hb0 hb1 hb2 hb01 hg1 hg2
  go_wp2_with fail
  refine (encodedLen_any f1 t1 tm1 w2 (by omega) (by omega) htm1).mono ?_
  rintro e w2 ⟨rfl, rfl⟩
  rw [Z1.out]
  go_wp2_with fail
  refine (encodedLen_any f2 t2 tm2 w2 (by omega) (by omega) htm2).mono ?_
  rintro e w2 ⟨rfl, rfl⟩
  rw [Z2.out]
  go_upto_region 29 with fail
  go_cut [164] (fun s164 wx => s164 = .bool (decide (n1 = n2 ∧ f1 = f2 ∧ t1 = t2 ∧ tm1 = tm2)) ∧ w2 = wx)
  case first =>
    clear P12 P21 PS Z1 Z2 b10 b11 b20 b21 hS1 hS2 HA HB
    by_cases e1 : n1 = n2
    · subst e1
      by_cases e2 : f1 = f2
      · subst e2
        by_cases e3 : t1 = t2
        · subst e3
          by_cases e4 : tm1 = tm2
          · subst e4
            go_wp2
            go_meet
            exact ⟨by simp, rfl⟩
          · have b4 : ((tm1 : Int) == (tm2 : Int)) = false := by simp; omega
            go_wp2
            go_meet
            exact ⟨by simp [e4], rfl⟩
        · have b3 := str_ne e3
          go_wp2
          go_meet
          exact ⟨by simp [e3], rfl⟩
      · have b2 := str_ne e2
        go_wp2
        go_meet
        exact ⟨by simp [e2], rfl⟩
    · have b1 : ((n1 : Int) == (n2 : Int)) = false := by simp; omega
      go_wp2
      go_meet
      exact ⟨by simp [e1], rfl⟩
  case rest =>
    obtain ⟨rfl, rfl⟩ := hcut
    by_cases hsame : n1 = n2 ∧ f1 = f2 ∧ t1 = t2 ∧ tm1 = tm2
    · rw [decide_eq_true hsame]
      have hW := PS.out hsame
      have HW : Hid _ := hW
      clear hW hsame
      go_wp2_with fail
      refine (equal_any _ _ _ _ _ hS1 hS2).mono ?_
      rintro e w3 ⟨rfl, q, rfl⟩
      rw [decide_eq_true HW.out]
      go_wp2
      go_ret
      exact ⟨rfl, below_drewN hb02 q⟩
    · rw [decide_eq_false hsame]
      have n12 : ¬ W2.take W1.length = W1 := fun h => hsame (P12.out h)
      have n21 : ¬ W1.take W2.length = W2 := fun h => hsame (by obtain ⟨a, b, c, d⟩ := P21.out h; exact ⟨a.symm, b.symm, c.symm, d.symm⟩)
      have N12 : Hid _ := decide_eq_false n12
      have N21 : Hid _ := decide_eq_false n21
      clear n12 n21 hsame
      go_wp2_with fail
      refine (hasPrefix_any _ _ _ _ _ hS1 hS2 (by omega)).mono ?_
      rintro e w3 ⟨rfl, q, rfl⟩
      rw [N21.out]
      go_wp2_with fail
      refine (hasPrefix_any _ _ _ _ _ (show Sees (w2.drewN q) _ W2 from hS2) (show Sees (w2.drewN q) _ W1 from hS1) (by omega)).mono ?_
      rintro e w4 ⟨rfl, q', rfl⟩
      rw [N12.out]
      go_wp2
      go_ret
      exact ⟨rfl, below_drewN hb02 _⟩

end Go.Proofs.Qxb6616388aFmt
