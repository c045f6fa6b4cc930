/-
  The law's walk: the early ways out; the way on which a or b is refused.
-/
import Derived.Test.Qxb6616416aFmtW8
import Derived.Test.Qxb6616416aFmtPlain4
import Derived.WalkLawsBesides
namespace Go.Proofs.Qxb6616416aFmt
open Go.RowKit Go.Extern.Stop Go.Stop Go.Extern

/-- the two texts are what the law speaks of -/
structure Fit (a b : ByteArray) : Prop where
  sum : a.size + b.size ≤ 1048576
  sa : a.size ≤ 65536
  sb : b.size ≤ 65536
  a2 : 2 ≤ a.size
  a0 : ((a[0]'(by omega)).toNat : Int) = 47
  al : (((a[a.size - 1]'(by omega)).toNat : Int) == 47) = false
  ane : (a.toList == [47, 42]) = false
  b1 : 1 ≤ b.size
  b0 : ((b[0]'(by omega)).toNat : Int) = 47
  bne : (b.toList == [47, 42]) = false

theorem hp_of {s : ByteArray} (h : 0 < s.size) (h0 : (s[0].toNat : Int) = 47) : Lib.hasPrefix s.data.toList [47] = true := by
  have e : s.data.toList = s[0] :: s.data.toList.drop 1 := by
    have := List.drop_eq_getElem_cons (l := s.data.toList) (i := 0) (by simpa using h)
    rw [List.drop_zero] at this
    exact this
  rw [e, show s[0] = 47 from Pl.b2i_inj h0]
  rfl

set_option maxRecDepth 100000 in
set_option maxHeartbeats 1000000 in
theorem fn_early (a b : ByteArray) (w : World) (ha : a.size ≤ maxLen) (hb : b.size ≤ maxLen) (nofit : ¬ Fit a b) :
    Calls Tryf.prog 3 #[.string a, .string b] w fun e w' => e = .returned (.bool true) ∧ Below w.heap.size w w' := by
  unfold maxLen at ha hb
  by_cases h1 : a.size + b.size ≤ 1048576
  · have hd1 : Hid (decide (a.size + b.size ≤ 1048576) = true) := decide_eq_true h1
    by_cases h2 : a.size ≤ 65536
    · by_cases h3 : b.size ≤ 65536
      · by_cases h4 : 2 ≤ a.size
        · have h11 : 0 < a.size := by omega
          have d2 : decide ((a.size : Int) < 2) = false := decide_eq_false (by omega)
          by_cases h5 : (a[0].toNat : Int) = 47
          · by_cases h6 : ((a[a.size - 1].toNat : Int) == 47) = false
            · by_cases h7 : (a.toList == [47, 42]) = false
              · by_cases h8 : 1 ≤ b.size
                · have h12 : 0 < b.size := by omega
                  by_cases h9 : (b[0].toNat : Int) = 47
                  · by_cases h10 : (b.toList == [47, 42]) = false
                    · exact absurd ⟨h1, h2, h3, h4, h5, h6, h7, h8, h9, h10⟩ nofit
                    · have h10' : (b.toList == [47, 42]) = true := by simpa using h10
                      clear h10 nofit
                      go_enter Tryf.func3, Tryf.ntmps3
                      go_wp2_with fail
                      refine (bytes_any a b w (by unfold maxLen; omega) (by unfold maxLen; omega)).mono ?_
                      rintro e w ⟨rfl, rfl⟩
                      rw [hd1.out]
                      go_wp2
                      go_ret
                      exact ⟨rfl, Below.refl _ _⟩
                  · clear nofit
                    go_enter Tryf.func3, Tryf.ntmps3
                    go_wp2_with fail
                    refine (bytes_any a b w (by unfold maxLen; omega) (by unfold maxLen; omega)).mono ?_
                    rintro e w ⟨rfl, rfl⟩
                    rw [hd1.out]
                    go_wp2
                    go_ret
                    exact ⟨rfl, Below.refl _ _⟩
                · clear nofit
                  go_enter Tryf.func3, Tryf.ntmps3
                  go_wp2_with fail
                  refine (bytes_any a b w (by unfold maxLen; omega) (by unfold maxLen; omega)).mono ?_
                  rintro e w ⟨rfl, rfl⟩
                  rw [hd1.out]
                  go_wp2
                  go_ret
                  exact ⟨rfl, Below.refl _ _⟩
              · have h7' : (a.toList == [47, 42]) = true := by simpa using h7
                clear h7 nofit
                go_enter Tryf.func3, Tryf.ntmps3
                go_wp2_with fail
                refine (bytes_any a b w (by unfold maxLen; omega) (by unfold maxLen; omega)).mono ?_
                rintro e w ⟨rfl, rfl⟩
                rw [hd1.out]
                go_wp2
                go_ret
                exact ⟨rfl, Below.refl _ _⟩
            · have h6' : ((a[a.size - 1].toNat : Int) == 47) = true := by simpa using h6
              clear h6 nofit
              go_enter Tryf.func3, Tryf.ntmps3
              go_wp2_with fail
              refine (bytes_any a b w (by unfold maxLen; omega) (by unfold maxLen; omega)).mono ?_
              rintro e w ⟨rfl, rfl⟩
              rw [hd1.out]
              go_wp2
              go_ret
              exact ⟨rfl, Below.refl _ _⟩
          · clear nofit
            go_enter Tryf.func3, Tryf.ntmps3
            go_wp2_with fail
            refine (bytes_any a b w (by unfold maxLen; omega) (by unfold maxLen; omega)).mono ?_
            rintro e w ⟨rfl, rfl⟩
            rw [hd1.out]
            go_wp2
            go_ret
            exact ⟨rfl, Below.refl _ _⟩
        · clear nofit
          go_enter Tryf.func3, Tryf.ntmps3
          go_wp2_with fail
          refine (bytes_any a b w (by unfold maxLen; omega) (by unfold maxLen; omega)).mono ?_
          rintro e w ⟨rfl, rfl⟩
          rw [hd1.out]
          go_wp2
          go_ret
          exact ⟨rfl, Below.refl _ _⟩
      · clear nofit
        go_enter Tryf.func3, Tryf.ntmps3
        go_wp2_with fail
        refine (bytes_any a b w (by unfold maxLen; omega) (by unfold maxLen; omega)).mono ?_
        rintro e w ⟨rfl, rfl⟩
        rw [hd1.out]
        go_wp2
        go_ret
        exact ⟨rfl, Below.refl _ _⟩
    · clear nofit
      go_enter Tryf.func3, Tryf.ntmps3
      go_wp2_with fail
      refine (bytes_any a b w (by unfold maxLen; omega) (by unfold maxLen; omega)).mono ?_
      rintro e w ⟨rfl, rfl⟩
      rw [hd1.out]
      go_wp2
      go_ret
      exact ⟨rfl, Below.refl _ _⟩
  · have hd1 : Hid (decide (a.size + b.size ≤ 1048576) = false) := decide_eq_false h1
    clear nofit
    go_enter Tryf.func3, Tryf.ntmps3
    go_wp2_with fail
    refine (bytes_any a b w (by unfold maxLen; omega) (by unfold maxLen; omega)).mono ?_
    rintro e w ⟨rfl, rfl⟩
    rw [hd1.out]
    go_wp2
    go_ret
    exact ⟨rfl, Below.refl _ _⟩

/-- ParsePattern, whatever the plain parse says. -/
theorem pp_any (F : Interp) (s : ByteArray) (w : World) (hs : s.size ≤ 1048576) (hE : Env F w) (h0 : 0 < s.size) (hne : (s.toList == [47, 42]) = false) (hp : Lib.hasPrefix s.data.toList [47] = true) :
    Calls Tryf.prog 5 #[.string s] w fun e w' => (∃ (t : ByteArray) (sl : Option Addr) (n c : Nat) (m : Int) (err : Value), e = .returned (.tuple #[.agg #[.string t, .slice sl n c, .int .i64 m], err]) ∧
      ((parsed s.data.toList = none ∧ ∃ a : Addr, err = .iface 39 (.pointer (some a))) ∨ (parsed s.data.toList ≠ none ∧ err = .nilIface))) ∧ Below w.heap.size w w' := by
  cases h : parsed s.data.toList with
  | none =>
    refine (pp_no F s w hs hE h0 hne hp h).mono ?_
    rintro e w' ⟨⟨a, rfl⟩, hb⟩
    exact ⟨⟨_, _, _, _, _, _, rfl, .inl ⟨rfl, a, rfl⟩⟩, hb⟩
  | some r =>
    refine (pp_yes F s w hs hE h0 hne hp r.1 r.2 h).mono ?_
    rintro e w' ⟨b, gs, rfl, _, _, _, hb⟩
    exact ⟨⟨_, _, _, _, _, _, rfl, .inr ⟨by simp, rfl⟩⟩, hb⟩

theorem app_data (a b : ByteArray) : (a ++ b).data.toList = a.data.toList ++ b.data.toList := by simp
theorem app_ne {a b : ByteArray} (ha : 2 ≤ a.size) (hb : 1 ≤ b.size) : ((a ++ b).toList == [47, 42]) = false := by
  rw [Lib.toList_data, app_data]
  refine beq_eq_false_iff_ne.2 fun e => ?_
  have := congrArg List.length e
  simp at this
  omega
theorem app_hp {a b : ByteArray} (h : Lib.hasPrefix a.data.toList [47] = true) : Lib.hasPrefix (a ++ b).data.toList [47] = true := by
  rw [app_data]
  cases hl : a.data.toList with
  | nil => rw [hl] at h; cases h
  | cons c r => rw [hl] at h; simpa [Lib.hasPrefix, List.isPrefixOf] using h

set_option maxRecDepth 100000 in
set_option maxHeartbeats 1000000 in
theorem fn_no (F : Interp) (a b : ByteArray) (w : World) (hE : Env F w) (fit : Fit a b) (hab : parsed a.data.toList = none ∨ parsed b.data.toList = none) (hj : parsed (a.data.toList ++ b.data.toList) = none) :
    Calls Tryf.prog 3 #[.string a, .string b] w fun e w' => e = .returned (.bool true) ∧ Below w.heap.size w w' := by
  obtain ⟨h1, h2, h3, h4, h5, h6, h7, h8, h9, h10⟩ := fit
  have h11 : 0 < a.size := by omega
  have h12 : 0 < b.size := by omega
  have d2 : decide ((a.size : Int) < 2) = false := decide_eq_false (by omega)
  have hpa := hp_of h11 h5
  have hpb := hp_of h12 h9
  have HPJ : Hid _ := app_hp (b := b) hpa
  have hjn := app_ne (a := a) (b := b) h4 h8
  have HPA : Hid _ := hpa
  have HPB : Hid _ := hpb
  have HJ : Hid _ := hj
  have HAB : Hid _ := hab
  clear hpa hpb hj hab
  go_enter Tryf.func3, Tryf.ntmps3
  go_wp2_with fail
  refine (bytes_any a b w (by unfold maxLen; omega) (by unfold maxLen; omega)).mono ?_
  rintro e w ⟨rfl, rfl⟩
  rw [decide_eq_true h1]
  go_wp2_with fail
  refine (pp_any F a w (by omega) hE h11 h7 HPA.out).mono ?_
  rintro e w1 ⟨⟨ta, sla, na, ca, ma, ea, rfl, hea⟩, hb1⟩
  have hE1 := hE.below hb1 hE.size
  have hE1' := hE1.below ((Below.refl _ w1).alloc (Nat.le_refl _) (.cells #[.string ta, .slice sla na ca, .int .i64 ma] 25)) hE1.size
  have HEA : Hid _ := hea
  clear hea
  go_wp2_with fail
  refine (pp_any F b _ (by omega) hE1' h12 h10 HPB.out).mono ?_
  rintro e w2 ⟨⟨tb, slb, nb, cb, mb, eb, rfl, heb⟩, hb2⟩
  have hE2 := hE1'.below hb2 hE1'.size
  have hE2' := hE2.below ((Below.refl _ w2).alloc (Nat.le_refl _) (.cells #[.string tb, .slice slb nb cb, .int .i64 mb] 25)) hE2.size
  have HEB : Hid _ := heb
  clear heb
  go_wp2_with fail
  refine (pp_any F (a ++ b) _ (by simp; omega) hE2' (by simp; omega) hjn HPJ.out).mono ?_
  rintro e w3 ⟨⟨tj, slj, nj, cj, mj, ej, rfl, hej⟩, hb3⟩
  rw [app_data, HJ.out] at hej
  obtain ⟨_, adj, rfl⟩ : _ ∧ ∃ adj : Addr, ej = .iface 39 (.pointer (some adj)) := by
    rcases hej with h | h
    · exact h
    · exact absurd rfl h.1
  have hbb := hb1.trans ((((Below.refl _ w1).alloc (Nat.le_refl _) _).trans (hb2.mono (by simp))).mono hb1.size)
  have hbc := hbb.trans ((((Below.refl _ w2).alloc (Nat.le_refl _) _).trans (hb3.mono (by simp))).mono hbb.size)
  rcases HEA.out with ⟨hpa, ada, rfl⟩ | ⟨hpa, rfl⟩
  · clear hpa
    go_wp2
    go_light
    go_ret
    exact ⟨rfl, hbc.alloc hbc.size _⟩
  · rcases HEB.out with ⟨hpb, adb, rfl⟩ | ⟨hpb, rfl⟩
    · clear hpa hpb
      go_wp2
      go_light
      go_ret
      exact ⟨rfl, hbc.alloc hbc.size _⟩
    · rcases HAB.out with h | h
      · exact absurd h hpa
      · exact absurd h hpb

end Go.Proofs.Qxb6616416aFmt
