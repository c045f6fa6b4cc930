/-
  segmentProblem: the reason is empty just where the segment is in its normal form and no dot segment.
-/
import Derived.Test.Qxb6616416aFmtW4
import Derived.Test.Qxb6616416aFmtFmt
namespace Go.Proofs.Qxb6616416aFmt
open Go.RowKit Go.Extern.Stop Go.Stop Go.Extern
attribute [local go_sem] call13 fmtGuard empty_p empty_r seg_p seg_r stands_p stands_r allow_p allow_r norm_p norm_r op3_100 op5_113 op21_113 op9_113 op9_115

def segOk (L : List UInt8) : Prop := Pl.norm L = some L ∧ L ≠ [46] ∧ L ≠ [46, 46]

/-- a reason: empty just where 'ok' holds, and never long -/
def Reason (ok : Prop) (e : Ending) : Prop := ∃ r : ByteArray, e = .returned (.string r) ∧ (r.size = 0 ↔ ok) ∧ r.size ≤ 33554432

theorem norm_length (n : Nat) : ∀ (L t : List UInt8), L.length ≤ n → Pl.norm L = some t → t.length ≤ L.length := by
  induction n with
  | zero =>
    intro L t hL h
    have : L = [] := List.eq_nil_of_length_eq_zero (by omega)
    subst this
    simp [Pl.norm] at h
    subst h
    exact Nat.le_refl _
  | succ n ih =>
    intro L t hL h
    match L, hL, h with
    | [], _, h => simp [Pl.norm] at h; subst h; exact Nat.le_refl _
    | c :: r, hL, h =>
      by_cases hc : c = 37
      · subst hc
        match r, hL, h with
        | [], _, h => rw [Pl.norm_short _ (by simp)] at h; cases h
        | [_], _, h => rw [Pl.norm_short _ (by simp)] at h; cases h
        | a :: b :: u, hL, h =>
          rw [Pl.norm_esc] at h
          split at h
          · obtain ⟨v, hv, rfl⟩ := Option.map_eq_some_iff.1 h
            have h1 := ih u v (by simp at hL; omega) hv
            have h2 := Pl.piece_length a b
            simp; omega
          · cases h
      · rw [Pl.norm_char _ hc] at h
        obtain ⟨v, hv, rfl⟩ := Option.map_eq_some_iff.1 h
        have h1 := ih r v (by simp at hL; omega) hv
        simp; omega

theorem reason_bad {ok : Prop} {r : ByteArray} (h : ¬ ok) (h0 : r.size ≠ 0) (h1 : r.size ≤ 33554432) : Reason ok (.returned (.string r)) := ⟨r, rfl, ⟨fun e => absurd e h0, fun e => absurd e h⟩, h1⟩
theorem reason_ok {ok : Prop} (h : ok) : Reason ok (.returned (.string ⟨#[]⟩)) := ⟨_, rfl, ⟨fun _ => h, fun _ => rfl⟩, Nat.zero_le _⟩

set_option maxRecDepth 100000 in
set_option maxHeartbeats 400000 in
theorem segp_any (hIB : SaidIB) (F : Interp) (s : ByteArray) (w : World) (hs : s.size ≤ 1048576) (hF : F.told.answers w.tape) :
    Calls Tryf.prog 17 #[.string s] w fun e w' => Reason (segOk s.data.toList) e ∧ Below w.heap.size w w' := by
  have hF' := answers_open hF
  cases hn : Pl.norm s.data.toList with
  | none =>
    go_enter Tryf.func17, Tryf.ntmps17
    go_wp2_with fail
    refine (norm_any hIB s w hs).mono ?_
    rintro e w1 ⟨rfl, hb⟩
    rw [normOut_none hn]
    go_wp2
    go_ret
    exact ⟨reason_bad (fun h => by rw [h.1] at hn; cases hn) (by decide) (by decide), hb⟩
  | some t =>
    have HN : Hid _ := hn
    clear hn
    go_enter Tryf.func17, Tryf.ntmps17
    go_wp2_with fail
    refine (norm_any hIB s w hs).mono ?_
    rintro e w1 ⟨rfl, hb⟩
    rw [normOut_some HN.out]
    have hFr := answers_open (show F.told.answers w1.tape by rw [hb.tape]; exact hF)
    have hlen := norm_length _ _ _ (Nat.le_refl _) HN.out
    have hsz : s.data.toList.length = s.size := by simp
    have hlen' : t.length ≤ 1048576 := by omega
    clear hlen hsz
    have hst : s.toList = s.data.toList := Lib.toList_data s
    have hst' : Hid _ := hst
    clear hst
    have same : ∀ {L : List UInt8}, Pl.norm s.data.toList = some L → t = L := fun h => by have := HN.out; rw [h] at this; exact (Option.some.inj this).symm
    have same' : Hid _ := @same
    clear same
    go_wp2
    · have h1 : t = [46] := by assumption
      go_ret
      exact ⟨reason_bad (fun h => h.2.1 (by rw [← same'.out h.1]; exact h1)) (by decide) (by decide), hb⟩
    · have h1 : (t == [46]) = true ∨ (t == [46, 46]) = true := by assumption
      go_ret
      refine ⟨reason_bad (fun h => ?_) (by decide) (by decide), hb⟩
      have e := same'.out h.1
      rcases h1 with h1 | h1
      · exact h.2.1 (by rw [← e]; exact beq_iff_eq.1 h1)
      · exact h.2.2 (by rw [← e]; exact beq_iff_eq.1 h1)
    · have h1 : (!t == s.toList) = true := by assumption
      have ht := norm_told F t (by omega)
      go_ret
      refine ⟨reason_bad (fun h => ?_) ht.1 ht.2, (hb.alloc hb.size _).drew⟩
      have e := same'.out h.1
      rw [hst'.out, e] at h1
      simp at h1
    · have h1 : (!t == s.toList) = false := by assumption
      have h2 : (t == [46]) = false ∧ (t == [46, 46]) = false := by assumption
      go_ret
      refine ⟨reason_ok ?_, hb⟩
      rw [hst'.out] at h1
      have e : t = s.data.toList := by simpa using h1
      exact ⟨by rw [HN.out, e], by rw [← e]; simpa using h2.1, by rw [← e]; simpa using h2.2⟩

end Go.Proofs.Qxb6616416aFmt
