/-
  The first law: what is appended is the message's wire form.
-/
import Derived.Test.Qxb6616388aFmtW10
namespace Go.Proofs.Qxb6616388aFmt
open Go.RowKit Go.Extern.Stop Go.Stop Go.Extern

theorem Arg.len {w : World} {v : Value} {L : List UInt8} (h : Arg w v L) : ∃ ad c, v = .slice ad L.length c ∧ L.length ≤ maxLen := by
  rcases h with ⟨rfl, rfl⟩ | ⟨ad, c, rfl, h1, h2, _⟩
  · exact ⟨_, _, rfl, by decide⟩
  · exact ⟨_, _, rfl, by omega⟩
theorem Full.len {w : World} {v : Value} {L : List UInt8} (h : Full w v L) : ∃ ad c, v = .slice ad L.length c := by
  rcases h with ⟨rfl, rfl⟩ | ⟨g, rfl, _⟩ <;> exact ⟨_, _, rfl⟩

set_option maxHeartbeats 4000000 in
set_option maxRecDepth 100000 in
theorem fn3_no (F : Interp) (v : Value) (L : List UInt8) (k : Int) (f t : ByteArray) (tm : Nat) (w : World) (hE : Env F w) (hv : Arg w v L) (s0 : L.length + f.size + t.size ≤ 1048576) (s1 : L.length ≤ 262144) (s2 : f.size ≤ 262144) (s3 : t.size ≤ 262144)
    (ha : accB k f t = false) (hn : ¬ (1 ≤ k ∧ k ≤ 3 ∧ Ok f ∧ Ok t)) :
    Calls Tryf.prog 3 #[v, .int .i64 k, .string f, .string t, .int .u64 tm] w fun e w' => e = .returned (.bool true) ∧ Below w.heap.size w w' := by
  obtain ⟨ad, c, rfl, hm⟩ := hv.len
  have HA : Hid _ := ha
  clear ha
  go_enter Tryf.func3, Tryf.ntmps3
  go_wp2_with fail
  refine (bytes3_any ad L.length c k f t tm w hm (by unfold maxLen; omega) (by unfold maxLen; omega)).mono ?_
  rintro e w ⟨rfl, rfl⟩
  rw [decide_eq_true s0]
  go_wp2_with fail
  refine (clone_any _ L w hv (by omega)).mono ?_
  rintro e w1 ⟨v1, rfl, hf1, hb1⟩
  go_wp2_with fail
  refine (clone_any v1 L w1 (hf1.arg (by unfold maxLen; omega)) (by omega)).mono ?_
  rintro e w2 ⟨v2, rfl, hf2, hb2⟩
  have hb02 := hb1.trans (hb2.mono hb1.size)
  have hb03 := hb02.alloc hb02.size (.cells #[Value.int IntKind.i64 k, .string f, .string t, .int .u64 tm] 28)
  have hE3 := hE.below hb03
  have hv1 := (hf1.below hb2).alloc (.cells #[Value.int IntKind.i64 k, .string f, .string t, .int .u64 tm] 28)
  have hv2 := hf2.alloc (.cells #[Value.int IntKind.i64 k, .string f, .string t, .int .u64 tm] 28)
  go_wp2_with fail
  refine (app_bad F k tm f t v1 _ hE3 (by omega) (by omega) hn).mono ?_
  rintro e w4 ⟨x1, rfl, ⟨T1, a1, e1, hT1, rfl, hc1⟩, hb4⟩
  have d : ∀ j, j < 4 → w4.cell? ⟨w2.heap.size, j, none⟩ = (#[Value.int IntKind.i64 k, .string f, .string t, .int .u64 tm])[j]? := fun j _ => by
    rw [hb4.cell (by simp)]
    simp
  have c0 := d 0 (by omega)
  have c1 := d 1 (by omega)
  have c2 := d 2 (by omega)
  have c3 := d 3 (by omega)
  simp at c0 c1 c2 c3
  clear d
  have hE4 := hE3.below hb4
  have hb04 := hb03.trans (hb4.mono hb03.size)
  have hv14 := hv1.below hb4
  have hv24 := hv2.below hb4
  go_wp2_with fail
  refine (app_bad F k tm f t _ _ hE4 (by omega) (by omega) hn).mono ?_
  rintro e w5 ⟨x2, rfl, ⟨T2, a2, e2, hT2, rfl, hc2⟩, hb5⟩
  have hb05 := hb04.trans (hb5.mono hb04.size)
  have hv15 := hv14.below hb5
  have hv25 := hv24.below hb5
  go_wp2_with fail
  refine (accepted_any k f t w5 (by omega) (by omega)).mono ?_
  rintro e w5 ⟨rfl, rfl⟩
  rw [HA.out]
  go_wp2_with fail
  refine (equal_any _ _ _ _ w5 (hv15.sees (by unfold maxLen; omega)) (hv25.sees (by unfold maxLen; omega))).mono ?_
  rintro e w6 ⟨rfl, q, rfl⟩
  rw [decide_eq_true rfl]
  go_wp2
  go_ret
  exact ⟨rfl, below_drewN hb05 q⟩

set_option maxHeartbeats 4000000 in
set_option maxRecDepth 100000 in
theorem fn3_yes (F : Interp) (v : Value) (L : List UInt8) (n : Nat) (f t : ByteArray) (tm : Nat) (htm : tm < 18446744073709551616) (w : World) (hE : Env F w) (hv : Arg w v L) (s0 : L.length + f.size + t.size ≤ 1048576) (s1 : L.length ≤ 262144) (s2 : f.size ≤ 262144) (s3 : t.size ≤ 262144)
    (ha : accB n f t = true) (hk1 : 1 ≤ n) (hk3 : n ≤ 3) (of : Ok f) (ot : Ok t) :
    Calls Tryf.prog 3 #[v, .int .i64 n, .string f, .string t, .int .u64 tm] w fun e w' => e = .returned (.bool true) ∧ Below w.heap.size w w' := by
  obtain ⟨ad, c, rfl, hm⟩ := hv.len
  have HA : Hid _ := ha
  clear ha
  go_enter Tryf.func3, Tryf.ntmps3
  go_wp2_with fail
  refine (bytes3_any ad L.length c n f t tm w hm (by unfold maxLen; omega) (by unfold maxLen; omega)).mono ?_
  rintro e w ⟨rfl, rfl⟩
  rw [decide_eq_true s0]
  go_wp2_with fail
  refine (clone_any _ L w hv (by omega)).mono ?_
  rintro e w1 ⟨v1, rfl, hf1, hb1⟩
  go_wp2_with fail
  refine (clone_any v1 L w1 (hf1.arg (by unfold maxLen; omega)) (by omega)).mono ?_
  rintro e w2 ⟨v2, rfl, hf2, hb2⟩
  have hb02 := hb1.trans (hb2.mono hb1.size)
  have hb03 := hb02.alloc hb02.size (.cells #[Value.int IntKind.i64 n, .string f, .string t, .int .u64 tm] 28)
  have hE3 := hE.below hb03
  have hv1 := (hf1.below hb2).alloc (.cells #[Value.int IntKind.i64 n, .string f, .string t, .int .u64 tm] 28)
  have hv2 := hf2.alloc (.cells #[Value.int IntKind.i64 n, .string f, .string t, .int .u64 tm] 28)
  go_wp2_with fail
  refine (app_ok F n tm f t v1 L _ hE3 (by omega) (by omega) htm hk1 hk3 of ot hv1 (by omega)).mono ?_
  rintro e w4 ⟨vo, rfl, hown, hb4⟩
  have d : ∀ j, j < 4 → w4.cell? ⟨w2.heap.size, j, none⟩ = (#[Value.int IntKind.i64 n, .string f, .string t, .int .u64 tm])[j]? := fun j _ => by
    rw [hb4.cell (by simp)]
    simp
  have c0 := d 0 (by omega)
  have c1 := d 1 (by omega)
  have c2 := d 2 (by omega)
  have c3 := d 3 (by omega)
  simp at c0 c1 c2 c3
  clear d
  have hE4 := hE3.below hb4
  have hb04 := hb03.trans (hb4.mono hb03.size)
  have hv14 := hv1.below hb4
  have hv24 := hv2.below hb4
  go_wp2_with fail
  refine (app_ok F n tm f t _ [] _ hE4 (by omega) (by omega) htm hk1 hk3 of ot (.inl ⟨rfl, rfl⟩) (by simp)).mono ?_
  rintro e w5 ⟨va, rfl, howna, hb5⟩
  have hb05 := hb04.trans (hb5.mono hb04.size)
  have hv15 := hv14.below hb5
  have hv25 := hv24.below hb5
  go_wp2_with fail
  refine (accepted_any n f t w5 (by omega) (by omega)).mono ?_
  rintro e w5 ⟨rfl, rfl⟩
  rw [HA.out]
  go_wp2_with fail
  refine (encode_any n tm f t w5 (by omega) (by omega) (by omega) htm).mono ?_
  rintro e w6 ⟨vw, rfl, hownw, hb6⟩
  simp only [List.nil_append] at howna
  have hb06 := hb05.trans (hb6.mono hb05.size)
  have l1 := wire_two n f.data.toList t.data.toList tm
  have m1 := wire_small n f t tm (by omega) (by omega) htm
  generalize Pl.wire n f.data.toList t.data.toList tm = X at *
  have hLX : (L ++ X).length = L.length + X.length := List.length_append
  obtain ⟨g, q, rfl, hg, hg', hq, hq', hcell⟩ := hown.form (by omega)
  rw [hLX]
  rw [hLX] at hq
  have sa : Sees w6 va X := (howna.sees).below hb6 (fun k hk => (howna.block k hk).2)
  have sw : Sees w6 vw X := hownw.sees
  have hv26 := hv25.below hb6
  have cell6 : ∀ (j : Nat) x, (L ++ X)[j]? = some x → w6.cell? ⟨g, 0 + j, none⟩ = some (.int .u8 x.toNat) := fun j x hx => by
    rw [hb6.cell (p := ⟨g, 0 + j, none⟩) (Nat.lt_of_lt_of_le hg' hb5.size), hb5.cell (p := ⟨g, 0 + j, none⟩) hg']
    exact hcell j x hx
  have so1 : Sees w6 (.slice (some ⟨g, 0, none⟩) L.length q) L := .inr ⟨g, 0, q, rfl, by omega, hq', fun j x hx => cell6 j x (by
    rw [List.getElem?_append_left (List.getElem?_eq_some_iff.1 hx).1]; exact hx)⟩
  have so2 : Sees w6 (.slice (some ⟨g, L.length, none⟩) X.length (q - L.length)) X := .inr ⟨g, L.length, q - L.length, rfl, by omega, by omega, fun j x hx => by
    have := cell6 (L.length + j) x (by rw [List.getElem?_append_right (by omega)]; simpa using hx)
    rw [Nat.zero_add] at this
    exact this⟩
  have sb : Sees w6 v2 L := hv26.sees (by unfold maxLen; omega)
  obtain ⟨adb, cb, rfl⟩ := hv26.len
  obtain ⟨ada, ca, rfl⟩ : ∃ ada ca, va = .slice ada X.length ca := by
    obtain ⟨g2, q2, rfl, _⟩ := howna.form (by omega)
    exact ⟨_, _, rfl⟩
  obtain ⟨adw, cw, rfl⟩ : ∃ adw cw, vw = .slice adw X.length cw := by
    obtain ⟨g2, q2, rfl, _⟩ := hownw.form (by omega)
    exact ⟨_, _, rfl⟩
  clear cell6 hcell hown howna hownw hv hv1 hv2 hf1 hf2 hv14 hv24 hv15 hv25 hv26 hE hE3 hE4 c0 c1 c2 c3
  go_wp2_with fail
  refine (equal_any _ _ _ _ w6 sa sw).mono ?_
  rintro e w7 ⟨rfl, q7, rfl⟩
  rw [decide_eq_true rfl]
  have h1 : (L.length : Int) ≤ (q : Int) := by omega
  have h2 : ¬ q = L.length := by omega
  have h3 : (L.length : Int) ≤ (L.length : Int) + (X.length : Int) := by omega
  go_wp2_with fail
  refine (equal_any _ _ _ _ _ (show Sees (w6.drewN q7) _ L from so1) (show Sees (w6.drewN q7) _ L from sb)).mono ?_
  rintro e w8 ⟨rfl, q8, rfl⟩
  rw [decide_eq_true rfl]
  go_wp2_with fail
  refine (equal_any _ _ _ _ _ (show Sees (w6.drewN (q7 + q8)) _ X from so2) (show Sees (w6.drewN (q7 + q8)) _ X from sa)).mono ?_
  rintro e w9 ⟨rfl, q9, rfl⟩
  rw [decide_eq_true rfl]
  go_wp2
  go_ret
  exact ⟨rfl, below_drewN hb06 _⟩

set_option maxHeartbeats 1000000 in
set_option maxRecDepth 100000 in
theorem fn3_big (v : Value) (L : List UInt8) (k tm : Int) (f t : ByteArray) (w : World) (hv : Arg w v L) (h1 : f.size ≤ maxLen) (h2 : t.size ≤ maxLen) (h : ¬ L.length + f.size + t.size ≤ 1048576) :
    Calls Tryf.prog 3 #[v, .int .i64 k, .string f, .string t, .int .u64 tm] w fun e w' => e = .returned (.bool true) ∧ Below w.heap.size w w' := by
  obtain ⟨ad, c, rfl, hm⟩ := hv.len
  go_enter Tryf.func3, Tryf.ntmps3
  go_wp2_with fail
  refine (bytes3_any ad L.length c k f t tm w hm h1 h2).mono ?_
  rintro e w ⟨rfl, rfl⟩
  rw [decide_eq_false h]
  go_wp2
  go_ret
  exact ⟨rfl, Below.refl _ _⟩

set_option maxHeartbeats 1000000 in
set_option maxRecDepth 100000 in
theorem fn3_long (v : Value) (L : List UInt8) (k tm : Int) (f t : ByteArray) (w : World) (hv : Arg w v L) (h : L.length + f.size + t.size ≤ 1048576) (h1 : 262144 < L.length ∨ 262144 < f.size ∨ 262144 < t.size) :
    Calls Tryf.prog 3 #[v, .int .i64 k, .string f, .string t, .int .u64 tm] w fun e w' => e = .returned (.bool true) ∧ Below w.heap.size w w' := by
  obtain ⟨ad, c, rfl, hm⟩ := hv.len
  have hb := bytes3_any ad L.length c k f t tm w hm (by unfold maxLen; omega) (by unfold maxLen; omega)
  rw [decide_eq_true h] at hb
  clear hv
  by_cases a1 : 262144 < L.length
  · go_enter Tryf.func3, Tryf.ntmps3
    go_wp2_with fail
    refine hb.mono ?_
    rintro e w ⟨rfl, rfl⟩
    clear hb
    go_wp2
    go_ret
    exact ⟨rfl, Below.refl _ _⟩
  · by_cases a2 : 262144 < f.size
    · go_enter Tryf.func3, Tryf.ntmps3
      go_wp2_with fail
      refine hb.mono ?_
      rintro e w ⟨rfl, rfl⟩
      clear hb
      go_wp2
      go_ret
      exact ⟨rfl, Below.refl _ _⟩
    · have a3 : 262144 < t.size := by omega
      go_enter Tryf.func3, Tryf.ntmps3
      go_wp2_with fail
      refine hb.mono ?_
      rintro e w ⟨rfl, rfl⟩
      clear hb
      go_wp2
      go_ret
      exact ⟨rfl, Below.refl _ _⟩

theorem fn3_any (F : Interp) (v : Value) (L : List UInt8) (k : Int) (tm : Nat) (htm : tm < 18446744073709551616) (f t : ByteArray) (w : World) (hE : Env F w) (hv : Arg w v L) (h1 : f.size ≤ maxLen) (h2 : t.size ≤ maxLen) :
    Calls Tryf.prog 3 #[v, .int .i64 k, .string f, .string t, .int .u64 tm] w fun e w' => e = .returned (.bool true) ∧ Below w.heap.size w w' := by
  by_cases h : L.length + f.size + t.size ≤ 1048576
  · by_cases hl : 262144 < L.length ∨ 262144 < f.size ∨ 262144 < t.size
    · exact fn3_long v L k tm f t w hv h hl
    · cases ha : accB k f t with
      | false =>
        have hn : ¬ (1 ≤ k ∧ k ≤ 3 ∧ Ok f ∧ Ok t) := fun hh => by rw [(accB_iff k f t).2 hh] at ha; cases ha
        exact fn3_no F v L k f t tm w hE hv h (by omega) (by omega) (by omega) ha hn
      | true =>
        obtain ⟨p, q, r, s⟩ := (accB_iff k f t).1 ha
        obtain ⟨n, rfl⟩ : ∃ n : Nat, k = n := ⟨k.toNat, by omega⟩
        exact fn3_yes F v L n f t tm htm w hE hv h (by omega) (by omega) (by omega) ha (by omega) (by omega) r s
  · exact fn3_big v L k tm f t w hv h1 h2 h

end Go.Proofs.Qxb6616388aFmt
