/-
  shortestDecimal, walked.
-/
import Derived.Test.Qxb6614922aDoorW8
namespace Go.Proofs.Qxb6614922aDoor
open Go.RowKit

theorem Own.below {B : Nat} {w w' : World} {v : Value} {L : List UInt8} (h : Own B w v L) (hb : Below w.heap.size w w') : Own B w' v L := by
  obtain ⟨h1, h2⟩ := h
  rcases h2 with h | ⟨g, cap, cur, e, hB, hR, r⟩
  · exact ⟨h1, .inl h⟩
  · exact ⟨h1, .inr ⟨g, cap, cur, e, hB, by rw [hb.block g (Array.getElem?_eq_some_iff.1 hR).1]; exact hR, r⟩⟩

theorem Own.aside {B : Nat} {w : World} {v : Value} {L : List UInt8} (h : Own (B + 1) w v L) (off : Nat) (u : Value) : Own (B + 1) (w.setCell ⟨B, off, none⟩ u) v L := by
  obtain ⟨h1, h2⟩ := h
  rcases h2 with h | ⟨g, cap, cur, e, hB, hR, r⟩
  · exact ⟨h1, .inl h⟩
  · exact ⟨h1, .inr ⟨g, cap, cur, e, hB, by rw [Below.heap_setCell _ _ _ _ (by show g ≠ B; omega)]; exact hR, r⟩⟩

def nums (L : List UInt8) : List Int := L.map fun x => (x.toNat : Int)
theorem nums_bytes (L : List UInt8) : Lib.bytesOf (nums L) = L := by
  unfold Lib.bytesOf nums
  simp [List.map_map, Function.comp_def]
theorem nums_str (L : List UInt8) : strOfNums (nums L) = ⟨L.toArray⟩ := by
  unfold strOfNums nums
  simp [List.map_map, Function.comp_def]
theorem nums_getD (L : List UInt8) (j : Nat) (x : UInt8) (h : L[j]? = some x) : (nums L).getD j 0 = (x.toNat : Int) := by
  simp [nums, List.getD, h]

namespace Pd
theorem digs_digit (d : Nat) : ∀ x ∈ digs d, 48 ≤ x.toNat ∧ x.toNat ≤ 57 := by
  intro x hx
  have hx := List.mem_of_mem_take hx
  rw [Lib.decDigits_eq] at hx
  obtain ⟨t, _, rfl⟩ := List.mem_map.1 hx
  unfold Lib.dg
  simp
  omega
theorem mant_no_e (T : List UInt8) (h : ∀ x ∈ T, 48 ≤ x.toNat ∧ x.toNat ≤ 57) : ∀ x ∈ mantTxt T, x ≠ 101 := by
  intro x hx e
  subst e
  unfold mantTxt at hx
  rcases List.mem_append.1 hx with hx | hx
  · have := h _ (List.mem_of_mem_take hx); simp at this
  · split at hx
    · rcases List.mem_cons.1 hx with hx | hx
      · cases hx
      · have := h _ (List.mem_of_mem_drop hx); simp at this
    · cases hx
end Pd

set_option maxHeartbeats 4000000 in
set_option maxRecDepth 100000 in
theorem shortest_any (b : Nat) (h1 : 1 ≤ b) (h2 : b < 9218868437227405312) (w : World) (hE : Env w) (hw : 6 < w.heap.size) :
    Calls Tryd.prog 21 #[.slice none 0 0, .float .f64 b] w fun e w' => ∃ v, e = .returned (.agg #[v, .int .i64 (Pd.ptB b)]) ∧ Own w.heap.size w' v (Pd.digs (Pd.dB b).1) ∧ Below w.heap.size w w' := by
  obtain ⟨d1, d2⟩ := Pd.d_bounds h1 h2
  obtain ⟨-, g2, g3⟩ := Pd.digs_len d1 d2
  have hdd := Pd.digs_digit (Pd.dB b).1
  have M := Pd.met h1 h2
  have hpt : -390 ≤ Pd.ptB b ∧ Pd.ptB b ≤ 390 := by
    have hn := Lib.nDigits_le20 (Pd.dB b).1 (by omega)
    have p1 := M.p1
    have p2 := M.p2
    unfold Pd.ptB Pd.pR
    split <;> omega
  have hcall := fun (w' : World) (hE' : Env w') (hw' : 6 < w'.heap.size) => append26_any b h1 h2 w' hE' hw'
  generalize hq1 : Pd.digs (Pd.dB b).1 = T at *
  generalize hq2 : Pd.ptB b = pt at *
  have HQ1 : Hid _ := hq1
  have HQ2 : Hid _ := hq2
  clear M d1 d2 hq1 hq2
  go_enter Tryd.func21, Tryd.ntmps21
  go_wp2_with fail
  refine (hcall _ (hE.below ((Below.refl w.heap.size w).alloc (Nat.le_refl _) _)) (by simp; omega)).mono ?_
  rintro e w1 ⟨v, rfl, hO, hb1⟩
  have hsz : (w.alloc (.cells #[.slice none 0 0, .int .i64 0] 52)).heap.size = w.heap.size + 1 := by simp
  rw [hsz] at hO hb1
  have hR1 : Row w1 w.heap.size 52 [.slice none 0 0, .int .i64 0] := (Row.new w [.slice none 0 0, .int .i64 0] 52).below hb1 (Nat.lt_succ_self _)
  have hb01 : Below w.heap.size w w1 := ((Below.refl w.heap.size w).alloc (Nat.le_refl _) _).trans (hb1.mono (Nat.le_succ _))
  have hz1 := hb1.size
  rw [hsz] at hz1
  have hat := Pd.atoi_exp (e := pt - 1) (by omega) (by omega)
  obtain ⟨R, hR⟩ : ∃ R, R = Pd.sgn (pt - 1) :: Pd.expTxt (pt - 1).natAbs := ⟨_, rfl⟩
  have hRl : 3 ≤ R.length ∧ R.length ≤ 4 := by rw [hR]; have := Pd.expTxt_len (pt - 1).natAbs; simp; omega
  have hLe : Pd.txt T pt = Pd.mantTxt T ++ 101 :: R := by rw [hR]; unfold Pd.txt; simp
  rw [← hR] at hat
  rw [hLe] at hO
  have hix := Pd.index_e (Pd.mantTxt T) R (Pd.mant_no_e T hdd)
  have hML : (Pd.mantTxt T).length = if T.length = 1 then 1 else T.length + 1 := by
    unfold Pd.mantTxt
    split <;> split <;> simp <;> omega
  have hdig : ∀ j x, (T.drop 1)[j]? = some x → (Pd.mantTxt T)[2 + j]? = some x := by
    intro j x hx
    have hj : 1 + j < T.length := by
      rw [List.getElem?_drop] at hx
      exact (List.getElem?_eq_some_iff.1 hx).1
    unfold Pd.mantTxt
    rw [if_pos (by omega), List.getElem?_append_right (by simp; omega), List.length_take, Nat.min_eq_left (by omega), show 2 + j - 1 = j + 1 by omega, List.getElem?_cons_succ]
    exact hx
  obtain ⟨t0, ht0⟩ : ∃ x, T[0]? = some x := ⟨T[0]'(by omega), List.getElem?_eq_getElem (by omega)⟩
  have hm0 : (Pd.mantTxt T ++ 101 :: R).take 1 = [t0] := by
    unfold Pd.mantTxt
    cases T with
    | nil => simp at g2
    | cons a l => simp at ht0; subst ht0; simp
  generalize Pd.mantTxt T = MT at *
  have hLl : (MT ++ 101 :: R).length = MT.length + 1 + R.length := by simp; omega
  obtain ⟨g, cap, rfl, hgB, hcap, hcapm, hcell, htake⟩ := hO.open (by omega)
  have hT1 := htake 1 (by omega)
  rw [hm0] at hT1
  have hcells : ∀ i, i < (MT ++ 101 :: R).length → w1.cell? ⟨g, 0 + i, none⟩ = some (.int .u8 ((nums (MT ++ 101 :: R)).getD i 0)) := by
    intro i hi
    obtain ⟨x, hx⟩ : ∃ x, (MT ++ 101 :: R)[i]? = some x := ⟨_, List.getElem?_eq_getElem hi⟩
    rw [Nat.zero_add, nums_getD _ i x hx]
    exact hcell i x hx
  have hconv := run_convert_bytes_arg (P := Tryd.prog) w1 23 5 Tryd.underlying23 Tryd.underlying5 g (MT.length + 1) R.length (cap - (MT.length + 1)) (nums R) (by simp [nums]) (fun i hi => by
    obtain ⟨x, hx⟩ : ∃ x, R[i]? = some x := ⟨_, List.getElem?_eq_getElem hi⟩
    rw [nums_getD _ i x hx]
    refine hcell (MT.length + 1 + i) x ?_
    rw [List.getElem?_append_right (by omega), show MT.length + 1 + i - MT.length = i + 1 by omega, List.getElem?_cons_succ]
    exact hx) 9 Tryd.underlying9
  rw [nums_str] at hconv
  have hIB := Tryd.bytes_IndexByte g 0 (MT ++ 101 :: R).length cap (nums (MT ++ 101 :: R)) 101 w1 (by simp [nums]) hcells
  rw [nums_bytes, show (101 : Int).toNat.toUInt8 = 101 from rfl, hix, hLl] at hIB
  rw [hLl] at hcap
  have HML : Hid ((T.length = 1 ∧ MT.length = 1) ∨ (2 ≤ T.length ∧ MT.length = T.length + 1)) := by
    show _ ∨ _
    split at hML <;> omega
  have hml1 : 1 ≤ MT.length ∧ MT.length ≤ 21 := by split at hML <;> omega
  clear hML
  have HAT : Hid _ := hat
  have HCELL : Hid _ := hcell
  have HDIG : Hid _ := hdig
  rw [hLl]
  have hsub : MT.length + 1 + R.length - (MT.length + 1) = R.length := by omega
  have hsz2 : (ByteArray.mk R.toArray).size = R.length := by simp [ByteArray.size]
  clear hcells hix hO htake hLe hR hdd hat hcell hdig hcall
  go_wp2_with fail
  refine hIB.mono ?_
  rintro e w2 ⟨rfl, rfl⟩
  clear hIB
  go_wp2_with fail
  refine (Tryd.strconv_Atoi ⟨R.toArray⟩ (pt - 1) (by rw [hsz2]; omega) HAT.out w2).mono ?_
  rintro e w3 ⟨rfl, t, hw3⟩
  have hb3 : Below w2.heap.size w2 w3 := by
    rw [hw3]
    exact ⟨rfl, rfl, rfl, by rw [Lib.bytesWorld_size]; omega, fun k hk => Lib.bytesWorld_at_old _ _ _ k hk⟩
  clear hw3
  have hT3 : Own (w.heap.size + 1) w3 (.slice (some ⟨g, 0, none⟩) 1 cap) [t0] := hT1.below hb3
  have hz3 : w.heap.size + 1 ≤ w3.heap.size := Nat.le_trans hz1 hb3.size
  have HC3 : Hid (∀ (j : Nat) x, (MT ++ 101 :: R)[j]? = some x → w3.cell? ⟨g, j, none⟩ = some (.int .u8 (x.toNat : Int))) := fun j x hx => cell_stays (HCELL.out j x hx) hb3
  clear HCELL hT1 hconv hsub hsz2 HAT
  rcases HML.out with ⟨q1, q2⟩ | ⟨q1, q2⟩
  · have hc1 : 1 ≤ cap := by omega
    have hc3 : (1 : Int) ≤ (cap : Int) := by omega
    have hc6 : ¬ cap = 1 := by omega
    have hmn : min (2 : Int) 1 = 1 := by decide
    have HT : Hid ([t0] ++ [] = T) := by
      show _ = _
      cases T with
      | nil => simp at g2
      | cons a l =>
        have hl : l = [] := by simpa using q1
        subst hl
        simp at ht0
        subst ht0
        simp
    rw [q2]
    rw [q2] at hcap hml1
    clear HML q1 q2 hLl hm0 HC3 HDIG
    go_wp2_with fail
    go_region_law (first
      | (refine step_app rfl (.tmp 25) (.tmp 30) ?_ (w.heap.size + 1) (.slice (some ⟨g, 0, none⟩) 1 cap) [t0] ?_ ?_ g 1 0 (cap - 1) [] ?_ ?_ ?_ ?_ ?_ ?_
         · rfl
         · rfl
         · exact hT3
         · rfl
         · rfl
         · intro j y hj; cases hj
         · simp
         · exact hz3
         intro v4 w4 hO4 hb4)
      | fail)
    all_goals
      have hR3' : Row w3 w.heap.size 52 [.slice none 0 0, .int .i64 0] := Row.below (B := w2.heap.size) hR1 hb3 (Nat.lt_of_lt_of_le (Nat.lt_succ_self _) hz1)
      have hR3 : Row w3.drew w.heap.size 52 [.slice none 0 0, .int .i64 0] := hR3'
      have hR4 : Row w4 w.heap.size 52 [.slice none 0 0, .int .i64 0] := Row.below hR3 hb4 (Nat.lt_succ_self _)
      have hb04 : Below w.heap.size w w4 := (hb01.trans (hb3.mono (Nat.le_trans (Nat.le_succ _) hz1))).drew.trans (hb4.mono (Nat.le_succ _))
      rw [HT.out] at hO4
      obtain ⟨g4, cap4, e4, hB4, _, _, _, _⟩ := hO4.open g2
      subst e4
      have c0 := hR4.cell 0 _ rfl
      have c1 := hR4.cell 1 _ rfl
      have f0 := hR4.free 0
      have f1 := hR4.free 1
      have hR5 := (hR4.set 0 (.slice (some ⟨g4, 0, none⟩) T.length cap4)).set 1 (.int .i64 pt)
      have hb05 := (hb04.setCell (p := ⟨w.heap.size, 0, none⟩) (Nat.le_refl _) (.slice (some ⟨g4, 0, none⟩) T.length cap4)).setCell (p := ⟨w.heap.size, 1, none⟩) (Nat.le_refl _) (.int .i64 pt)
      have HO4 : Hid _ := hO4
      have HR5 : Hid _ := hR5
      have HB5 : Hid _ := hb05
      have hpt1 : pt - 1 + 1 = pt := by omega
      clear hR3 hR3' hR4 hR5 hb05 hb04 hO4
      go_wp2
      (try simp only [Exit.inBlock, Exit.then])
      refine bodyPost_ret (results_cell_row rfl _ _ w.heap.size 52 #[.slice (some ⟨g4, 0, none⟩) T.length cap4, .int .i64 pt] (0, 0) _ rfl HR5.out Tryd.underlying52 rfl (by kernel_rfl)) rfl ?_
      exact ⟨_, rfl, Own.base (Own.aside (Own.aside HO4.out 0 _) 1 _) (Nat.le_succ _), HB5.out⟩
  · have hq2 : ¬ MT.length < 2 := by omega
    have hml3 : 2 ≤ MT.length := by omega
    have hTd : (T.drop 1).length = MT.length - 2 := by rw [List.length_drop]; omega
    have HTD : Hid _ := hTd
    have HT : Hid ([t0] ++ T.drop 1 = T) := by
      show _ = _
      cases T with
      | nil => simp at g2
      | cons a l => simp at ht0; subst ht0; simp
    have hc1 : 1 ≤ cap := by omega
    have hc2 : MT.length ≤ cap := by omega
    have hc3 : (1 : Int) ≤ (cap : Int) := by omega
    have hc4 : (MT.length : Int) ≤ (cap : Int) := by omega
    have hc5 : (2 : Int) ≤ (MT.length : Int) := by omega
    have hc6 : ¬ cap = 2 := by omega
    have hmn : min (2 : Int) (MT.length : Int) = 2 := by omega
    clear HML q2 hTd
    go_wp2_with fail
    go_region_law (first
      | (refine step_app rfl (.tmp 25) (.tmp 30) ?_ (w.heap.size + 1) (.slice (some ⟨g, 0, none⟩) 1 cap) [t0] ?_ ?_ g 2 (MT.length - 2) (cap - 2) (T.drop 1) ?_ ?_ ?_ ?_ ?_ ?_
         · rfl
         · rfl
         · exact hT3
         · rfl
         · exact HTD.out
         · intro j y hj; exact HC3.out (2 + j) y (by rw [List.getElem?_append_left (by have := (List.getElem?_eq_some_iff.1 (HDIG.out j y hj)).1; exact this)]; exact HDIG.out j y hj)
         · simp; omega
         · exact hz3
         intro v4 w4 hO4 hb4)
      | fail)
    all_goals
      have hR3' : Row w3 w.heap.size 52 [.slice none 0 0, .int .i64 0] := Row.below (B := w2.heap.size) hR1 hb3 (Nat.lt_of_lt_of_le (Nat.lt_succ_self _) hz1)
      have hR3 : Row w3.drew w.heap.size 52 [.slice none 0 0, .int .i64 0] := hR3'
      have hR4 : Row w4 w.heap.size 52 [.slice none 0 0, .int .i64 0] := Row.below hR3 hb4 (Nat.lt_succ_self _)
      have hb04 : Below w.heap.size w w4 := (hb01.trans (hb3.mono (Nat.le_trans (Nat.le_succ _) hz1))).drew.trans (hb4.mono (Nat.le_succ _))
      rw [HT.out] at hO4
      obtain ⟨g4, cap4, e4, hB4, _, _, _, _⟩ := hO4.open g2
      subst e4
      have c0 := hR4.cell 0 _ rfl
      have c1 := hR4.cell 1 _ rfl
      have f0 := hR4.free 0
      have f1 := hR4.free 1
      have hR5 := (hR4.set 0 (.slice (some ⟨g4, 0, none⟩) T.length cap4)).set 1 (.int .i64 pt)
      have hb05 := (hb04.setCell (p := ⟨w.heap.size, 0, none⟩) (Nat.le_refl _) (.slice (some ⟨g4, 0, none⟩) T.length cap4)).setCell (p := ⟨w.heap.size, 1, none⟩) (Nat.le_refl _) (.int .i64 pt)
      have HO4 : Hid _ := hO4
      have HR5 : Hid _ := hR5
      have HB5 : Hid _ := hb05
      have hpt1 : pt - 1 + 1 = pt := by omega
      clear hR3 hR3' hR4 hR5 hb05 hb04 hO4
      go_wp2
      (try simp only [Exit.inBlock, Exit.then])
      refine bodyPost_ret (results_cell_row rfl _ _ w.heap.size 52 #[.slice (some ⟨g4, 0, none⟩) T.length cap4, .int .i64 pt] (0, 0) _ rfl HR5.out Tryd.underlying52 rfl (by kernel_rfl)) rfl ?_
      exact ⟨_, rfl, Own.base (Own.aside (Own.aside HO4.out 0 _) 1 _) (Nat.le_succ _), HB5.out⟩
end Go.Proofs.Qxb6614922aDoor
