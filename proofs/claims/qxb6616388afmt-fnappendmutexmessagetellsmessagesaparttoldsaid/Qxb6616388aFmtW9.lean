/-
  The second law at every input.
-/
import Derived.Test.Qxb6616388aFmtW8
namespace Go.Proofs.Qxb6616388aFmt
open Go.RowKit Go.Extern.Stop Go.Stop Go.Extern

set_option maxHeartbeats 1000000 in
set_option maxRecDepth 100000 in
theorem fn4_big (k1 k2 tm1 tm2 : Int) (f1 t1 f2 t2 : ByteArray) (w : World) (h1 : f1.size ≤ maxLen) (h2 : t1.size ≤ maxLen) (h3 : f2.size ≤ maxLen) (h4 : t2.size ≤ maxLen) (h : ¬ f1.size + t1.size + f2.size + t2.size ≤ 1048576) :
    Calls Tryf.prog 4 #[.int .i64 k1, .string f1, .string t1, .int .u64 tm1, .int .i64 k2, .string f2, .string t2, .int .u64 tm2] w fun e w' => e = .returned (.bool true) ∧ Below w.heap.size w w' := by
  go_enter Tryf.func4, Tryf.ntmps4
  go_wp2_with fail
  refine (bytes4_any k1 f1 t1 tm1 k2 f2 t2 tm2 w h1 h2 h3 h4).mono ?_
  rintro e w ⟨rfl, rfl⟩
  rw [decide_eq_false h]
  go_wp2
  go_ret
  exact ⟨rfl, Below.refl _ _⟩

set_option maxHeartbeats 1000000 in
set_option maxRecDepth 100000 in
theorem fn4_long (k1 k2 tm1 tm2 : Int) (f1 t1 f2 t2 : ByteArray) (w : World) (h : f1.size + t1.size + f2.size + t2.size ≤ 1048576) (h1 : 262144 < f1.size ∨ 262144 < t1.size ∨ 262144 < f2.size ∨ 262144 < t2.size) :
    Calls Tryf.prog 4 #[.int .i64 k1, .string f1, .string t1, .int .u64 tm1, .int .i64 k2, .string f2, .string t2, .int .u64 tm2] w fun e w' => e = .returned (.bool true) ∧ Below w.heap.size w w' := by
  have hb := bytes4_any k1 f1 t1 tm1 k2 f2 t2 tm2 w (by unfold maxLen; omega) (by unfold maxLen; omega) (by unfold maxLen; omega) (by unfold maxLen; omega)
  rw [decide_eq_true h] at hb
  by_cases a1 : 262144 < f1.size
  · go_enter Tryf.func4, Tryf.ntmps4
    go_wp2_with fail
    refine hb.mono ?_
    rintro e w ⟨rfl, rfl⟩
    clear hb
    go_wp2
    go_ret
    exact ⟨rfl, Below.refl _ _⟩
  · by_cases a2 : 262144 < t1.size
    · go_enter Tryf.func4, Tryf.ntmps4
      go_wp2_with fail
      refine hb.mono ?_
      rintro e w ⟨rfl, rfl⟩
      clear hb
      go_wp2
      go_ret
      exact ⟨rfl, Below.refl _ _⟩
    · by_cases a3 : 262144 < f2.size
      · go_enter Tryf.func4, Tryf.ntmps4
        go_wp2_with fail
        refine hb.mono ?_
        rintro e w ⟨rfl, rfl⟩
        clear hb
        go_wp2
        go_ret
        exact ⟨rfl, Below.refl _ _⟩
      · have a4 : 262144 < t2.size := by omega
        go_enter Tryf.func4, Tryf.ntmps4
        go_wp2_with fail
        refine hb.mono ?_
        rintro e w ⟨rfl, rfl⟩
        clear hb
        go_wp2
        go_ret
        exact ⟨rfl, Below.refl _ _⟩

theorem fn4_any (F : Interp) (k1 k2 : Int) (tm1 tm2 : Nat) (htm1 : tm1 < 18446744073709551616) (htm2 : tm2 < 18446744073709551616) (f1 t1 f2 t2 : ByteArray) (w : World) (hE : Env F w)
    (h1 : f1.size ≤ maxLen) (h2 : t1.size ≤ maxLen) (h3 : f2.size ≤ maxLen) (h4 : t2.size ≤ maxLen) :
    Calls Tryf.prog 4 #[.int .i64 k1, .string f1, .string t1, .int .u64 tm1, .int .i64 k2, .string f2, .string t2, .int .u64 tm2] w fun e w' => e = .returned (.bool true) ∧ Below w.heap.size w w' := by
  by_cases h : f1.size + t1.size + f2.size + t2.size ≤ 1048576
  · by_cases hl : 262144 < f1.size ∨ 262144 < t1.size ∨ 262144 < f2.size ∨ 262144 < t2.size
    · exact fn4_long k1 k2 tm1 tm2 f1 t1 f2 t2 w h hl
    · have fit : Fit f1 t1 f2 t2 := ⟨h, by omega, by omega, by omega, by omega⟩
      cases ha : accB k1 f1 t1 with
      | false =>
        have hn1 : ¬ (1 ≤ k1 ∧ k1 ≤ 3 ∧ Ok f1 ∧ Ok t1) := fun hh => by rw [(accB_iff k1 f1 t1).2 hh] at ha; cases ha
        cases hb : accB k2 f2 t2 with
        | false =>
          have hn2 : ¬ (1 ≤ k2 ∧ k2 ≤ 3 ∧ Ok f2 ∧ Ok t2) := fun hh => by rw [(accB_iff k2 f2 t2).2 hh] at hb; cases hb
          exact fn4_nn F k1 k2 tm1 tm2 htm1 htm2 f1 t1 f2 t2 w hE fit ha hb hn1 hn2
        | true =>
          obtain ⟨p, q, r, s⟩ := (accB_iff k2 f2 t2).1 hb
          obtain ⟨n2, rfl⟩ : ∃ n : Nat, k2 = n := ⟨k2.toNat, by omega⟩
          exact fn4_ny F k1 n2 tm1 tm2 htm1 htm2 f1 t1 f2 t2 w hE fit ha hb hn1 (by omega) (by omega) r s
      | true =>
        obtain ⟨p1, q1, r1, s1⟩ := (accB_iff k1 f1 t1).1 ha
        obtain ⟨n1, rfl⟩ : ∃ n : Nat, k1 = n := ⟨k1.toNat, by omega⟩
        cases hb : accB k2 f2 t2 with
        | false =>
          have hn2 : ¬ (1 ≤ k2 ∧ k2 ≤ 3 ∧ Ok f2 ∧ Ok t2) := fun hh => by rw [(accB_iff k2 f2 t2).2 hh] at hb; cases hb
          exact fn4_yn F n1 k2 tm1 tm2 htm1 htm2 f1 t1 f2 t2 w hE fit ha hb (by omega) (by omega) r1 s1 hn2
        | true =>
          obtain ⟨p, q, r, s⟩ := (accB_iff k2 f2 t2).1 hb
          obtain ⟨n2, rfl⟩ : ∃ n : Nat, k2 = n := ⟨k2.toNat, by omega⟩
          exact fn4_yy F n1 n2 tm1 tm2 htm1 htm2 f1 t1 f2 t2 w hE fit ha hb (by omega) (by omega) r1 s1 (by omega) (by omega) r s
  · exact fn4_big k1 k2 tm1 tm2 f1 t1 f2 t2 w h1 h2 h3 h4 h

end Go.Proofs.Qxb6616388aFmt
