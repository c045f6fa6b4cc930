import Derived.Test.Qxb6616416aFmtW1
namespace Go.Proofs.Qxb6616416aFmt
open Go.RowKit

theorem ret_bool {a b : Bool} (h : a = b) : Ending.returned (.bool a) = .returned (.bool b) := by rw [h]
theorem ret_int {k : IntKind} {a b : Int} (h : a = b) : Ending.returned (.int k a) = .returned (.int k b) := by rw [h]

set_option maxHeartbeats 400000 in
theorem unres_any (c : Int) (w : World) :
    Calls Tryf.prog 30 #[.int .u8 c] w fun e w' => e = .returned (.bool (Pl.unres c)) ∧ w' = w := by
  go_enter Tryf.func30, Tryf.ntmps30
  go_wp2
  all_goals
    go_ret
    exact ⟨ret_bool (by rw [Bool.eq_iff_iff]; simp [Pl.unres]; try omega), rfl⟩

set_option maxHeartbeats 400000 in
theorem bytes_any (a b : ByteArray) (w : World) (ha : a.size ≤ maxLen) (hb : b.size ≤ maxLen) :
    Calls Tryf.prog 4 #[.string a, .string b] w fun e w' => e = .returned (.bool (decide (a.size + b.size ≤ 1048576))) ∧ w' = w := by
  unfold maxLen at ha hb
  go_enter Tryf.func4, Tryf.ntmps4
  go_wp2
  all_goals
    go_ret
    exact ⟨ret_bool (by rw [Bool.eq_iff_iff]; simp; try omega), rfl⟩

theorem string_any (t : ByteArray) (v : Value) (m : Int) (w : World) :
    Calls Tryf.prog 9 #[.agg #[.string t, v, .int .i64 m]] w fun e w' => e = .returned (.string t) ∧ Below w.heap.size w w' := by
  go_enter Tryf.func9, Tryf.ntmps9
  go_wp2
  go_ret
  exact ⟨rfl, (Below.refl _ w).alloc (Nat.le_refl _) _⟩

theorem take_snoc (s : ByteArray) (k : Nat) (h : k < s.size) : s.data.toList.take (k + 1) = s.data.toList.take k ++ [s[k]] := by
  rw [List.take_succ_eq_append_getElem (by simpa using h)]; rfl

theorem count_snoc (s : ByteArray) (k : Nat) (h : k < s.size) : (s.data.toList.take (k + 1)).count 47 = (s.data.toList.take k).count 47 + if (s[k].toNat : Int) = 47 then 1 else 0 := by
  rw [take_snoc s k h, List.count_append]
  by_cases h : s[k] = 47
  · have e : (s[k].toNat : Int) = 47 := by rw [h]; rfl
    rw [if_pos e, h]; rfl
  · have e : ¬ (s[k].toNat : Int) = 47 := by
      intro e
      exact h (UInt8.toNat_inj.1 (by have : s[k].toNat = 47 := by omega
                                     rw [this]; rfl))
    rw [if_neg e]
    simp [h]

set_option maxHeartbeats 400000 in
theorem count_any (s : ByteArray) (w : World) (hs : s.size ≤ maxLen) :
    Calls Tryf.prog 8 #[.string s] w fun e w' => e = .returned (.int .i64 (s.data.toList.count 47)) ∧ w' = w := by
  unfold maxLen at hs
  go_enter Tryf.func8, Tryf.ntmps8
  go_wp2
  go_loop [3, 4] (fun n i => ∃ k : Nat, k ≤ s.size ∧ i = .int .i64 k ∧ n = .int .i64 ((s.data.toList.take k).count 47)) (fun _ i => s.size - (intOf i).toNat)
  case atStart => exact ⟨0, Nat.zero_le _, rfl, rfl⟩
  case round =>
    obtain ⟨k, hk, rfl, rfl⟩ := hrel
    have hl : (s.data.toList.take k).count 47 ≤ k := Nat.le_trans List.count_le_length (List.length_take_le _ _)
    by_cases hlt : k < s.size
    · have hsn := count_snoc s k hlt
      by_cases hc : (s[k].toNat : Int) = 47
      · rw [if_pos hc] at hsn
        have HS : Hid _ := hsn
        clear hsn
        go_wp2
        go_round
        case rel => exact ⟨k + 1, by omega, by go_num, by rw [HS.out]; go_num⟩
        case measure => simp [intOf]; omega
      · rw [if_neg hc] at hsn
        have HS : Hid _ := hsn
        clear hsn
        go_wp2
        go_round
        case rel => exact ⟨k + 1, by omega, by go_num, by rw [HS.out]; go_num⟩
        case measure => simp [intOf]; omega
    · go_wp2
      go_ret
      exact ⟨ret_int (by rw [List.take_of_length_le (by simp; omega)]; simp), rfl⟩


def opInt (k : Int) : Bool := decide (k = 1) || decide (k = 2)

theorem op_hit {ks : List Int} {k : Nat} (h : k < ks.length) (h1 : ks[k] = 1 ∨ ks[k] = 2) : ks.any opInt = true :=
  List.any_eq_true.2 ⟨ks[k], List.getElem_mem h, by simpa [opInt] using h1⟩
theorem op_miss {ks : List Int} {k : Nat} (h : k < ks.length) (h0 : (ks.take k).any opInt = false) (h1 : ¬ ks[k] = 1 ∧ ¬ ks[k] = 2) : (ks.take (k + 1)).any opInt = false := by
  rw [List.take_succ_eq_append_getElem h, List.any_append, h0]
  simpa [opInt] using h1

set_option maxHeartbeats 400000 in
theorem hasOp_any (b c : Nat) (ks : List Int) (w : World) (hs : ks.length ≤ maxLen) (hc : ∀ j, j < ks.length → w.cell? ⟨b, j, none⟩ = some (.int .i64 (ks.getD j 0))) :
    Calls Tryf.prog 7 #[.slice (some ⟨b, 0, none⟩) ks.length c] w fun e w' => e = .returned (.bool (ks.any opInt)) ∧ w' = w := by
  unfold maxLen at hs
  go_enter Tryf.func7, Tryf.ntmps7
  go_wp2
  go_loop [3] (fun i => ∃ k : Nat, k ≤ ks.length ∧ i = .int .i64 k ∧ (ks.take k).any opInt = false) (fun i => ks.length - (intOf i).toNat)
  case atStart => exact ⟨0, Nat.zero_le _, rfl, rfl⟩
  case round =>
    obtain ⟨k, hk, rfl, hno⟩ := hrel
    have HN : Hid _ := hno
    clear hno
    by_cases hlt : k < ks.length
    · have hcell := hc k hlt
      clear hc
      go_wp2
      · have h1 : ks[k] = 1 := by assumption
        go_ret
        exact ⟨ret_bool (op_hit hlt (by simp [h1])).symm, rfl⟩
      · have h1 : (ks[k] == 1) = true ∨ (ks[k] == 2) = true := by assumption
        go_ret
        exact ⟨ret_bool (op_hit hlt (by simpa using h1)).symm, rfl⟩
      · have h1 : (ks[k] == 1) = false ∧ (ks[k] == 2) = false := by assumption
        go_round
        case rel => exact ⟨k + 1, by omega, by go_num, op_miss hlt HN.out (by simpa using h1)⟩
        case measure => simp [intOf]; omega
    · go_wp2
      go_ret
      exact ⟨ret_bool (by have := HN.out; rw [List.take_of_length_le (by omega)] at this; rw [this]), rfl⟩

end Go.Proofs.Qxb6616416aFmt
