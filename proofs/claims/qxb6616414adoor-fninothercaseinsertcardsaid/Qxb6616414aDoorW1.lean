/-
  unicode.SimpleFold.
-/
import Derived.Test.Qxb6616414aDoorShelf
import Derived.Test.Qxb6616414aDoorPlain2
import Derived.Shelf.Unicode.CaseTo
import Derived.WalkKit
import Derived.WalkSpells
import Derived.WalkLawsBesides
import Derived.Deep.Light
import Derived.Deep.LoopGhost
import Derived.Deep.Cut
import Derived.Deep.CutRange
import Derived.Deep.DeepCutAuto
namespace Go.Proofs.Qxb6616414aDoor
open Go.RowKit Go.Lib

/-- what the road asks of the world: Go's tables -/
structure Env (w : World) : Prop where
  tabs : Lib.Utf8Tabs 3 4 w
  asc : ∀ j, j < 128 → w.cell? ⟨0, j, none⟩ = some (.int .u16 (Pl.asciiF j))
  orb : ∃ R oR cap, w.cell? ⟨1, 0, none⟩ = some (.slice (some ⟨R, oR, none⟩) 94 cap) ∧ ∀ i, i < 94 → w.cell? ⟨R, oR + i * 2, none⟩ = some (.int .u16 (Pl.orb.getD i (0, 0)).1) ∧ w.cell? ⟨R, oR + i * 2 + 1, none⟩ = some (.int .u16 (Pl.orb.getD i (0, 0)).2)
  cas : CaseVar 2 caseA w

theorem orb_small : (Pl.orb.all fun p => decide (p.1 < 65536) && decide (p.2 < 65536)) = true := by kernel_rfl
theorem orb_at (i : Nat) : (Pl.orb.getD i (0, 0)).1 < 65536 ∧ (Pl.orb.getD i (0, 0)).2 < 65536 := by
  cases h : Pl.orb[i]? with
  | none => simp [List.getD, h]
  | some p =>
    have := List.all_eq_true.1 orb_small p (List.mem_of_getElem? h)
    simpa [List.getD, h] using this
theorem asciiF_small (j : Nat) (h : j < 128) : Pl.asciiF j < 65536 := by unfold Pl.asciiF; repeat' split
                                                                         all_goals omega
theorem caseOk : CaseOk caseA := by
  have h : (caseT.all fun p => decide (p.1 < 2147483647) && decide (p.2.1 < 2147483647)) = true := by kernel_rfl
  intro i hi
  have := List.all_eq_true.1 h _ (Pl.caseA_mem i hi)
  rw [Bool.and_eq_true, decide_eq_true_eq, decide_eq_true_eq] at this
  omega
theorem caseOk2 (i : Nat) (hi : i < caseA.size) : (caseA.getD i (0, 0, 0, 0, 0)).2.1 < 2147483647 := by
  have h : (caseT.all fun p => decide (p.2.1 < 2147483647)) = true := by kernel_rfl
  simpa using List.all_eq_true.1 h _ (Pl.caseA_mem i hi)
theorem caseSize : caseA.size ≤ 1000000000 := by
  have : caseA.size = caseT.length := by simp [caseA]
  rw [this]
  exact Nat.le_of_ble_eq_true (by kernel_rfl)

theorem ret_bool {a b : Bool} (h : a = b) : Ending.returned (.bool a) = .returned (.bool b) := by rw [h]
theorem ret_int {k : IntKind} {a b : Int} (h : a = b) : Ending.returned (.int k a) = .returned (.int k b) := by rw [h]
theorem sfCase_none {r : Int} (h : lookupIdx caseA r (caseA.size + 1) 0 caseA.size = none) : Pl.sfCase r = r := by unfold Pl.sfCase; rw [h]
theorem sfCase_some {r : Int} {i : Nat} (h : lookupIdx caseA r (caseA.size + 1) 0 caseA.size = some i) :
    Pl.sfCase r = if wrap32 (convertR 1 r (Pl.rowAt i)) = r then wrap32 (convertR 0 r (Pl.rowAt i)) else wrap32 (convertR 1 r (Pl.rowAt i)) := by unfold Pl.sfCase; rw [h]

set_option maxHeartbeats 2000000 in
set_option maxRecDepth 100000 in
theorem sf_low (r : Nat) (h : r < 128) (w : World) (hE : Env w) :
    Calls Tryd.prog 15 #[.int .i32 r] w fun e w' => e = .returned (.int .i32 (Pl.sf r)) ∧ ∃ q, w' = w.drewN q := by
  have e : Pl.sf r = (Pl.asciiF r : Nat) := by unfold Pl.sf; rw [if_neg (by omega), if_pos (by omega)]; rfl
  have c := hE.asc r h
  have hs := asciiF_small r h
  rw [e]
  generalize Pl.asciiF r = x at c hs
  clear hE
  go_enter Tryd.func15, Tryd.ntmps15
  go_wp2
  go_ret
  exact ⟨rfl, 0, rfl⟩

set_option maxHeartbeats 4000000 in
set_option maxRecDepth 100000 in
theorem sf_high (r : Nat) (h : 128 ≤ r) (h2 : r ≤ 1114111) (w : World) (hE : Env w) :
    Calls Tryd.prog 15 #[.int .i32 r] w fun e w' => e = .returned (.int .i32 (Pl.sf r)) ∧ ∃ q, w' = w.drewN q := by
  obtain ⟨R, oR, cap, hv, ho⟩ := hE.orb
  obtain ⟨R2, oR2, cap2, hv2, hT⟩ := hE.cas
  have e : Pl.sf r = if Pl.orbIdx r 95 0 94 < 94 ∧ ((Pl.orb.getD (Pl.orbIdx r 95 0 94) (0, 0)).1 : Int) = r then ((Pl.orb.getD (Pl.orbIdx r 95 0 94) (0, 0)).2 : Int) else Pl.sfCase r := by
    unfold Pl.sf; rw [if_neg (by omega), if_neg (by omega)]
  obtain ⟨ANS, hA⟩ : ∃ ANS, Pl.orbIdx r 95 0 94 = ANS := ⟨_, rfl⟩
  rw [hA] at e
  have HS : Hid _ := e
  have HT : Hid _ := hT
  have HO : Hid _ := ho
  clear e hT ho hE
  go_enter Tryd.func15, Tryd.ntmps15
  go_wp2
  go_loopg [3, 4, 5] 95 (fun g s3 s4 _ wx => wx = w ∧ ∃ lo hi : Nat, s3 = .int .i64 lo ∧ s4 = .int .i64 hi ∧ lo ≤ hi ∧ hi ≤ 94 ∧ hi - lo < g ∧ Hid (Pl.orbIdx r g lo hi = ANS))
  case atStart => exact ⟨rfl, 0, 94, rfl, rfl, by omega, by omega, by omega, hA⟩
  case round =>
    obtain ⟨rfl, lo, hi, rfl, rfl, hlh, hhn, hg, hl⟩ := hrel
    by_cases hlt : lo < hi
    · obtain ⟨g', rfl⟩ : ∃ g', gk = g' + 1 := ⟨gk - 1, by omega⟩
      obtain ⟨m, hm⟩ : ∃ m, (lo + hi) / 2 = m := ⟨_, rfl⟩
      have hmz : ((lo : Int) + (hi : Int)) / 2 = (m : Int) := by omega
      obtain ⟨c0, _⟩ := HO.out m (by omega)
      have hsm := (orb_at m).1
      have hl' := hl.out
      rw [Pl.orbIdx, if_pos hlt, hm] at hl'
      obtain ⟨F, hF⟩ : ∃ F, (Pl.orb.getD m (0, 0)).1 = F := ⟨_, rfl⟩
      rw [hF] at c0 hsm hl'
      have hm0 : (m : Int) < 94 := by omega
      by_cases hb : (F : Int) < r
      · rw [if_pos hb] at hl'
        have HL : Hid _ := hl'
        clear hl' hl hF
        go_wp2
        go_roundg g'
        case measure => omega
        case rel => exact ⟨rfl, m + 1, hi, by go_num, rfl, by omega, by omega, by omega, HL.out⟩
      · rw [if_neg hb] at hl'
        have HL : Hid _ := hl'
        clear hl' hl hF
        go_wp2
        go_roundg g'
        case measure => omega
        case rel => exact ⟨rfl, lo, m, rfl, rfl, by omega, by omega, by omega, HL.out⟩
    · have hn' : Pl.orbIdx r gk lo hi = lo := by cases gk <;> simp [Pl.orbIdx, hlt]
      have hlA : lo = ANS := hn'.symm.trans hl.out
      subst hlA
      clear hl hn'
      go_upto_region 12 with fail
      go_cut [57] (fun s57 wx => s57 = .bool (decide (lo < 94 ∧ ((Pl.orb.getD lo (0, 0)).1 : Int) = r)) ∧ wr = wx)
      case first =>
        by_cases hl94 : lo < 94
        · obtain ⟨c0, _⟩ := HO.out lo hl94
          have hsm := (orb_at lo).1
          have hlz : (lo : Int) < 94 := by omega
          obtain ⟨F, hF0⟩ : ∃ F, (Pl.orb.getD lo (0, 0)).1 = F := ⟨_, rfl⟩
          rw [hF0] at c0 hsm
          have HF0 : Hid _ := hF0
          clear hF0
          by_cases hF : (F : Int) = r
          · have hd : decide (lo < 94 ∧ (F : Int) = r) = true := decide_eq_true ⟨hl94, hF⟩
            have hb : ((F : Int) == (r : Int)) = true := by simpa using hF
            have HD : Hid _ := hd
            clear hd hF
            go_wp2
            go_meet
            rw [HF0.out, HD.out]
            exact ⟨by simp, rfl⟩
          · have hd : decide (lo < 94 ∧ (F : Int) = r) = false := decide_eq_false (fun h => hF h.2)
            have hb : ((F : Int) == (r : Int)) = false := by simpa using hF
            have HD : Hid _ := hd
            clear hd hF
            go_wp2
            go_meet
            rw [HF0.out, HD.out]
            exact ⟨by simp, rfl⟩
        · have hd : decide (lo < 94 ∧ ((Pl.orb.getD lo (0, 0)).1 : Int) = r) = false := decide_eq_false (fun h => hl94 h.1)
          have hlz : ¬ (lo : Int) < 94 := by omega
          have HD : Hid _ := hd
          clear hd
          go_wp2
          go_meet
          rw [HD.out]
          exact ⟨rfl, rfl⟩
      case rest =>
        obtain ⟨rfl, rfl⟩ := hcut
        by_cases hfound : lo < 94 ∧ ((Pl.orb.getD lo (0, 0)).1 : Int) = r
        · rw [decide_eq_true hfound]
          have hsf := HS.out
          rw [if_pos hfound] at hsf
          obtain ⟨_, c1⟩ := HO.out lo hfound.1
          have hsm := (orb_at lo).2
          have hlz : (lo : Int) < 94 := by omega
          generalize (Pl.orb.getD lo (0, 0)).2 = T at c1 hsm hsf
          have HSF : Hid _ := hsf
          clear hsf hfound
          go_wp2
          go_ret
          exact ⟨ret_int HSF.out.symm, 0, rfl⟩
        · rw [decide_eq_false hfound]
          have hsf := HS.out
          rw [if_neg hfound] at hsf
          have HSF : Hid _ := hsf
          clear hsf hfound HS
          go_wp2_with fail
          refine (Tryd.unicode_lookupCaseRange caseA R2 oR2 cap2 r wr HT.out caseOk caseSize).mono ?_
          rintro e w1 ⟨rfl, rfl⟩
          cases hk : lookupIdx caseA r (caseA.size + 1) 0 caseA.size with
          | none =>
            have hsc := sfCase_none hk
            have HC : Hid _ := HSF.out.trans hsc
            clear hsc hk HSF
            simp only
            go_wp2
            go_ret
            exact ⟨ret_int HC.out.symm, 0, rfl⟩
          | some i =>
            have hsc := sfCase_some hk
            obtain ⟨hi1, hlo1, hhi1⟩ := Pl.lookup_in caseA r _ _ _ i (Nat.le_refl _) hk
            obtain ⟨d0, _, d2, d3, _⟩ := HT.out i hi1
            have hH := caseOk2 i hi1
            have k1 := fun W (c0 : W.cell? ⟨R2, oR2 + i * 5, none⟩ = _) cD => Tryd.unicode_convertCase 1 (by omega) r R2 (oR2 + i * 5) (Pl.rowAt i) W hlo1 hhi1 hH c0 cD
            have k0 := fun W (c0 : W.cell? ⟨R2, oR2 + i * 5, none⟩ = _) cD => Tryd.unicode_convertCase 0 (by omega) r R2 (oR2 + i * 5) (Pl.rowAt i) W hlo1 hhi1 hH c0 cD
            have K1 : Hid _ := k1
            have K0 : Hid _ := k0
            have HC : Hid _ := HSF.out.trans hsc
            have D0 : Hid _ := d0
            have D2 : Hid _ := d2
            have D3 : Hid _ := d3
            clear hsc hk HSF k1 k0 d0 d2 d3 hlo1 hhi1 hH
            simp only
            go_wp2_with fail
            refine (K1.out w1 D0.out D3.out).mono ?_
            rintro e w2 ⟨rfl, q, rfl⟩
            have hc := HC.out
            generalize wrap32 (convertR 1 r (Pl.rowAt i)) = X at hc ⊢
            by_cases hX : X = (r : Int)
            · rw [if_pos hX] at hc
              have HC2 : Hid _ := hc
              subst hX
              clear hc HC
              go_wp2_with fail
              refine (K0.out (w1.drewN q) D0.out D2.out).mono ?_
              rintro e w3 ⟨rfl, q2, rfl⟩
              go_wp2
              go_ret
              exact ⟨ret_int HC2.out.symm, _, rfl⟩
            · rw [if_neg hX] at hc
              have HC2 : Hid _ := hc
              have hXb : (X == (r : Int)) = false := by simpa using hX
              clear hc HC
              go_wp2
              go_ret
              exact ⟨ret_int HC2.out.symm, q, rfl⟩

set_option maxHeartbeats 1000000 in
set_option maxRecDepth 100000 in
theorem sf_any (r : Int) (w : World) (hE : Env w) :
    Calls Tryd.prog 15 #[.int .i32 r] w fun e w' => e = .returned (.int .i32 (Pl.sf r)) ∧ ∃ q, w' = w.drewN q := by
  by_cases h0 : r < 0
  · have e : Pl.sf r = r := by unfold Pl.sf; rw [if_pos (.inl h0)]
    have HE : Hid _ := e
    clear e
    go_enter Tryd.func15, Tryd.ntmps15
    go_wp2
    go_ret
    exact ⟨ret_int HE.out.symm, 0, rfl⟩
  · by_cases h1 : 1114111 < r
    · have e : Pl.sf r = r := by unfold Pl.sf; rw [if_pos (.inr h1)]
      have HE : Hid _ := e
      clear e
      go_enter Tryd.func15, Tryd.ntmps15
      go_wp2
      go_ret
      exact ⟨ret_int HE.out.symm, 0, rfl⟩
    · obtain ⟨n, rfl⟩ := Int.eq_ofNat_of_zero_le (show 0 ≤ r by omega)
      by_cases h : n < 128
      · exact sf_low n h w hE
      · exact sf_high n (by omega) (by omega) w hE

end Go.Proofs.Qxb6616414aDoor
