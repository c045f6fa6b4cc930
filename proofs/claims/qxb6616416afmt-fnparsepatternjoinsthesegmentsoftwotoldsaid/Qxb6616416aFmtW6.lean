/-
  literalProblem: the reason is empty just where the literal is taken ('okLit'). The world's needs ('Env').
-/
import Derived.Test.Qxb6616416aFmtW5
import Derived.Test.Qxb6616416aFmtShelf
namespace Go.Proofs.Qxb6616416aFmt
open Go.RowKit Go.Extern.Stop Go.Stop Go.Extern
attribute [local go_sem] call13 fmtGuard empty_p empty_r seg_p seg_r stands_p stands_r allow_p allow_r norm_p norm_r op3_100 op5_113 op21_113 op9_113 op9_115

/-- what the road asks of the world: Go's two tables of UTF-8, bytealg.MaxLen, the tape's answers -/
structure Env (F : Interp) (w : World) : Prop where
  tabs : Lib.Utf8Tabs 0 1 w
  maxl : ∃ m, w.cell? ⟨2, 0, none⟩ = some (.int .i64 m)
  ans : F.told.answers w.tape
  size : 3 ≤ w.heap.size

theorem Env.below {F : Interp} {w w' : World} {B : Nat} (h : Env F w) (hb : Below B w w') (hB : 3 ≤ B) : Env F w' := by
  obtain ⟨⟨t1, t2⟩, ⟨m, hm⟩, ha, hs⟩ := h
  refine ⟨⟨fun c hc => ?_, fun i hi => ?_⟩, ⟨m, ?_⟩, by rw [hb.tape]; exact ha, Nat.le_trans hs hb.size⟩
  · rw [hb.cell (by show 0 < B; omega)]; exact t1 c hc
  · rw [hb.cell (by show 1 < B; omega), hb.cell (by show 1 < B; omega)]; exact t2 i hi
  · rw [hb.cell (by show 2 < B; omega)]; exact hm

theorem saidIB : SaidIB := Tryf.strings_IndexByte

theorem letters_esc (r : List UInt8) : Pl.letters (37 :: r) = Pl.letters (r.drop 2) := by
  match r with
  | [] => rfl
  | [_] => rfl
  | _ :: _ :: t => rw [Pl.letters, if_pos rfl]; rfl
theorem letters_good {c : UInt8} (r : List UInt8) (h : c ≠ 37) (ha : Pl.allowed c = true) : Pl.letters (c :: r) = Pl.letters r := by
  match r with
  | [] => simp [Pl.letters, h, ha]
  | [_] => rw [Pl.letters, if_neg h, if_pos ha]; simp
  | _ :: _ :: t => rw [Pl.letters, if_neg h, if_pos ha]
theorem letters_bad {c : UInt8} (r : List UInt8) (h : c ≠ 37) (ha : Pl.allowed c = false) : Pl.letters (c :: r) = false := by
  match r with
  | [] => simp [Pl.letters, h, ha]
  | [_] => rw [Pl.letters, if_neg h, if_neg (by simp [ha])]; simp
  | _ :: _ :: t => rw [Pl.letters, if_neg h, if_neg (by simp [ha])]

theorem ok_iff (L : List UInt8) : Pl.okLit L = true ↔ segOk L ∧ Pl.letters L = true := by
  unfold Pl.okLit segOk
  simp only [Bool.and_eq_true, decide_eq_true_eq]
  constructor
  · rintro ⟨⟨⟨a, b⟩, c⟩, d⟩; exact ⟨⟨a, b, c⟩, d⟩
  · rintro ⟨⟨a, b, c⟩, d⟩; exact ⟨⟨⟨a, b⟩, c⟩, d⟩

def pz (c : UInt8) : Int := Lib.indexByte Pl.punct c
theorem punct_index (c : UInt8) : (0 ≤ pz c) ↔ Pl.punct.contains c = true := by
  have key : ∀ n : Fin 256, (decide (0 ≤ pz (UInt8.ofNat n.val)) == Pl.punct.contains (UInt8.ofNat n.val)) = true := by decide +kernel
  have := key ⟨c.toNat, c.toNat_lt⟩
  simp only [UInt8.ofNat_toNat] at this
  rw [beq_iff_eq] at this
  rw [← this]
  simp
theorem punct_call (c : UInt8) (w : World) : Calls Tryf.prog 18 #[.string ⟨#[45, 46, 95, 126, 33, 36, 38, 39, 40, 41, 43, 44, 59, 61, 58, 64]⟩, .int .u8 (c.toNat : Int)] w fun e w' => e = .returned (.int .i64 (pz c)) ∧ w' = w := by
  have h := saidIB ⟨#[45, 46, 95, 126, 33, 36, 38, 39, 40, 41, 43, 44, 59, 61, 58, 64]⟩ (c.toNat : Int) w
  have e : ((c.toNat : Int)).toNat.toUInt8 = c := by simp
  rw [e] at h
  exact h

set_option maxRecDepth 100000 in
set_option maxHeartbeats 1000000 in
theorem lit_any (F : Interp) (s : ByteArray) (w : World) (hs : s.size ≤ 1048576) (hE : Env F w) :
    Calls Tryf.prog 14 #[.string s] w fun e w' => Reason (Pl.okLit s.data.toList = true) e ∧ Below w.heap.size w w' := by
  go_enter Tryf.func14, Tryf.ntmps14
  go_wp2_with fail
  refine (segp_any saidIB F s w hs hE.ans).mono ?_
  rintro e w1 ⟨⟨r, rfl, hr, hrl⟩, hb⟩
  by_cases h0 : r.size = 0
  · have hso := hr.1 h0
    obtain rfl : r = ⟨#[]⟩ := by
      have : r = ByteArray.empty := by simpa using h0
      rw [this]; rfl
    have hso' : Hid _ := hso
    clear hso hr hrl h0
    have hE1 := hE.below hb hE.size
    go_wp2_with fail
    go_loop [4] (fun i => ∃ k : Nat, k ≤ s.size + 2 ∧ i = .int .i64 k ∧ Pl.letters s.data.toList = Pl.letters (s.data.toList.drop k)) (fun i => s.size + 2 - (intOf i).toNat)
    case atStart => exact ⟨0, by omega, rfl, rfl⟩
    case round =>
      obtain ⟨k, hk, rfl, hl⟩ := hrel
      have HL : Hid _ := hl
      clear hl
      by_cases hlt : k < s.size
      · have hD : Hid (s.data.toList.drop k = s[k] :: s.data.toList.drop (k + 1)) := by
          show _ = _
          rw [List.drop_eq_getElem_cons (by simpa using hlt)]; rfl
        have hcr := Pl.b2i_range s[k]
        unfold Pl.b2i at hcr
        obtain ⟨hcr1, hcr2⟩ := hcr
        by_cases hc : (s[k].toNat : Int) = 37
        · have h37 : s[k] = 37 := Pl.b2i_inj hc
          have HN : Hid (Pl.letters s.data.toList = Pl.letters (s.data.toList.drop (k + 3))) := by
            show _ = _
            rw [HL.out, hD.out, h37, letters_esc, List.drop_drop]
          clear h37
          go_wp2
          go_light
          go_round
          case rel => exact ⟨k + 3, by omega, by go_num, HN.out⟩
          case measure => simp [intOf]; omega
        · have hne37 : s[k] ≠ 37 := fun e => hc (by rw [e]; rfl)
          have hne37' : Hid _ := hne37
          clear hne37
          by_cases hst : (s[k].toNat : Int) = 42 ∨ (s[k].toNat : Int) = 123 ∨ (s[k].toNat : Int) = 125
          · have hbad : Hid (¬ Pl.okLit s.data.toList = true) := fun h => by
              have h2 := ((ok_iff _).1 h).2
              rw [HL.out, hD.out, letters_bad _ hne37'.out (by
                rcases hst with e | e | e
                · rw [show s[k] = 42 from Pl.b2i_inj e]; decide
                · rw [show s[k] = 123 from Pl.b2i_inj e]; decide
                · rw [show s[k] = 125 from Pl.b2i_inj e]; decide)] at h2
              cases h2
            have hFr := answers_open hE1.ans
            rcases hst with e | e | e
            · go_wp2
              go_light
              go_ret
              have ht := stands_told F 42 (by decide) (by decide)
              exact ⟨reason_bad hbad.out ht.1 (Nat.le_trans ht.2 (by decide)), (hb.alloc hb.size _).drew⟩
            · go_wp2
              go_light
              go_ret
              have ht := stands_told F 123 (by decide) (by decide)
              exact ⟨reason_bad hbad.out ht.1 (Nat.le_trans ht.2 (by decide)), (hb.alloc hb.size _).drew⟩
            · go_wp2
              go_light
              go_ret
              have ht := stands_told F 125 (by decide) (by decide)
              exact ⟨reason_bad hbad.out ht.1 (Nat.le_trans ht.2 (by decide)), (hb.alloc hb.size _).drew⟩
          · have n42 : ((s[k].toNat : Int) == 42) = false := beq_eq_false_iff_ne.2 fun e => hst (.inl e)
            have n123 : ((s[k].toNat : Int) == 123) = false := beq_eq_false_iff_ne.2 fun e => hst (.inr (.inl e))
            have n125 : ((s[k].toNat : Int) == 125) = false := beq_eq_false_iff_ne.2 fun e => hst (.inr (.inr e))
            have n37 : ((s[k].toNat : Int) == 37) = false := beq_eq_false_iff_ne.2 hc
            clear hst hc
            by_cases hal : Pl.alnum s[k].toNat = true
            · have hal' : (97 ≤ (s[k].toNat : Int) ∧ (s[k].toNat : Int) ≤ 122) ∨ (65 ≤ (s[k].toNat : Int) ∧ (s[k].toNat : Int) ≤ 90) ∨ (48 ≤ (s[k].toNat : Int) ∧ (s[k].toNat : Int) ≤ 57) := by
                simp only [Pl.alnum, Bool.or_eq_true, decide_eq_true_eq] at hal
                omega
              have HN : Hid (Pl.letters s.data.toList = Pl.letters (s.data.toList.drop (k + 1))) := by
                show _ = _
                rw [HL.out, hD.out, letters_good _ hne37'.out (by unfold Pl.allowed Pl.b2i; rw [hal]; rfl)]
              clear hal
              rcases hal' with ⟨a1, a2⟩ | ⟨a1, a2⟩ | ⟨a1, a2⟩
              all_goals
                go_wp2
                go_light
                go_round
                case rel => exact ⟨k + 1, by omega, by go_num, HN.out⟩
                case measure => simp [intOf]; omega
            · have hal' : ((s[k].toNat : Int) < 48) ∨ (57 < (s[k].toNat : Int) ∧ (s[k].toNat : Int) < 65) ∨ (90 < (s[k].toNat : Int) ∧ (s[k].toNat : Int) < 97) ∨ (122 < (s[k].toNat : Int)) := by
                simp only [Pl.alnum, Bool.or_eq_true, decide_eq_true_eq] at hal
                omega
              have hal2 : Hid (Pl.alnum s[k].toNat = false) := by
                show _ = _
                simpa using hal
              clear hal
              have hpi := punct_index s[k]
              have hpi' : Hid _ := hpi
              clear hpi
              have hFr := answers_open hE1.ans
              have hrune : Hid (∀ t : ByteArray, (Lib.decodeGo t).1 ≤ 1114111) := fun t => by
                unfold Lib.decodeGo
                split
                · decide
                · exact decode_max t 0
              by_cases hp : 0 ≤ pz s[k]
              · have HN : Hid (Pl.letters s.data.toList = Pl.letters (s.data.toList.drop (k + 1))) := by
                  show _ = _
                  rw [HL.out, hD.out, letters_good _ hne37'.out (by unfold Pl.allowed; rw [hpi'.out.1 hp]; simp)]
                rcases hal' with a1 | ⟨a1, a2⟩ | ⟨a1, a2⟩ | a1
                all_goals
                  go_wp2_with fail
                  refine (punct_call _ _).mono ?_
                  rintro e w1 ⟨rfl, rfl⟩
                  go_wp2
                  go_light
                  go_round
                  case rel => exact ⟨k + 1, by omega, by go_num, HN.out⟩
                  case measure => simp [intOf]; omega
              · have hbad : Hid (¬ Pl.okLit s.data.toList = true) := fun h => by
                  have h2 := ((ok_iff _).1 h).2
                  rw [HL.out, hD.out, letters_bad _ hne37'.out (by
                    unfold Pl.allowed Pl.b2i
                    rw [hal2.out]
                    have : ¬ Pl.punct.contains s[k] = true := fun e => hp (hpi'.out.2 e)
                    simpa using this)] at h2
                  cases h2
                rcases hal' with a1 | ⟨a1, a2⟩ | ⟨a1, a2⟩ | a1
                all_goals
                  go_wp2_with fail
                  refine (punct_call _ _).mono ?_
                  rintro e w1 ⟨rfl, rfl⟩
                  go_wp2_with fail
                  refine (Tryf.utf8_DecodeRuneInString _ _ hE1.tabs).mono ?_
                  rintro e w2 ⟨rfl, hb2⟩
                  have hr := hrune.out (s.extract k s.size)
                  generalize (Lib.decodeGo (s.extract k s.size)).1 = ru at hr ⊢
                  generalize (Lib.decodeGo (s.extract k s.size)).2 = sz
                  have hF2 := answers_open (show F.told.answers w2.tape by rw [hb2.tape]; exact hE1.ans)
                  clear hFr
                  go_wp2
                  go_light
                  go_ret
                  have ht := allow_told F ru (by omega) (by omega)
                  have hb3 := hb.trans (hb2.mono hb.size)
                  exact ⟨reason_bad hbad.out ht.1 (Nat.le_trans ht.2 (by decide)), (hb3.alloc hb3.size _).drew⟩
      · go_wp2
        go_ret
        refine ⟨reason_ok ((ok_iff _).2 ⟨hso'.out, ?_⟩), hb⟩
        rw [HL.out, List.drop_of_length_le (by simp; omega)]
        rfl
  · have hno : ¬ segOk s.data.toList := fun h => h0 (hr.2 h)
    have hne : (!r.toList.isEmpty) = true := by
      rw [Lib.toList_data]
      cases hd : r.data.toList with
      | nil => exact absurd (by rw [← ByteArray.size_data, ← Array.length_toList, hd]; rfl) h0
      | cons _ _ => rfl
    go_wp2
    go_ret
    exact ⟨reason_bad (fun h => hno ((ok_iff _).1 h).1) h0 hrl, hb⟩

end Go.Proofs.Qxb6616416aFmt
