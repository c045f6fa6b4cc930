/-
  strings.EqualFold at every two strings.
-/
import Derived.Test.Qxb6616414aDoorW1
import Derived.WalkMore
import Derived.ScopeJumps
import Derived.Lib.OthersKept
import Derived.Lib.TrimUEq
import Derived.Lib.ValidAsc
import Derived.Shelf.Unicode.DecodeLastEight
namespace Go.Proofs.Qxb6616414aDoor
open Go.RowKit Go.Lib

theorem or_u8 (m c : Nat) (hm : m < 256) (hc : c < 256) : bits .or .u8 (m : Int) (c : Int) = ((m ||| c : Nat) : Int) :=
  (bits_nat .u8 8 (by decide) wraps_u8 m c (by simpa using hm) (by simpa using hc)).2
theorem or_lt8 {m c : Nat} (hm : m < 256) (hc : c < 256) : m ||| c < 256 := Nat.or_lt_two_pow (n := 8) hm hc
theorem or_lt7 {m c : Nat} : m ||| c < 128 ↔ m < 128 ∧ c < 128 :=
  ⟨fun h => ⟨Nat.lt_of_le_of_lt Nat.left_le_or h, Nat.lt_of_le_of_lt Nat.right_le_or h⟩, fun h => Nat.or_lt_two_pow (n := 7) h.1 h.2⟩

theorem cell_stays {w w' : World} {a : Addr} {v : Value} (h : w.cell? a = some v) (hb : Below w.heap.size w w') : w'.cell? a = some v := by
  rw [hb.cell (World.block_lt_of_cell? w a h)]; exact h
theorem Env.below {w w' : World} (h : Env w) (hb : Below w.heap.size w w') : Env w' := by
  obtain ⟨⟨t1, t2⟩, h2, ⟨R, oR, cap, h3, h4⟩, ⟨R2, oR2, cap2, h5, h6⟩⟩ := h
  exact ⟨⟨fun c hc => cell_stays (t1 c hc) hb, fun i hi => ⟨cell_stays (t2 i hi).1 hb, cell_stays (t2 i hi).2 hb⟩⟩, fun j hj => cell_stays (h2 j hj) hb,
    ⟨R, oR, cap, cell_stays h3 hb, fun i hi => ⟨cell_stays (h4 i hi).1 hb, cell_stays (h4 i hi).2 hb⟩⟩,
    ⟨R2, oR2, cap2, cell_stays h5 hb, fun i hi => ⟨cell_stays (h6 i hi).1 hb, cell_stays (h6 i hi).2.1 hb, cell_stays (h6 i hi).2.2.1 hb, cell_stays (h6 i hi).2.2.2.1 hb, cell_stays (h6 i hi).2.2.2.2 hb⟩⟩⟩

theorem below_drewN {B : Nat} {a w : World} (h : Below B a w) (n : Nat) : Below B a (w.drewN n) := ⟨h.os, h.tape, h.output, h.size, h.block⟩

theorem decodeN_max (n b0 b1 b2 b3 : Nat) : (decodeN n b0 b1 b2 b3).1 ≤ 1114111 := by
  unfold decodeN
  repeat' split
  all_goals simp only
  all_goals omega
theorem decodeL_max (l : List UInt8) : (decodeL l).1 ≤ 1114111 := by rw [decodeL_N]; exact decodeN_max ..

theorem decodeGo_L (s : ByteArray) (h : s.size ≠ 0) : decodeGo s = decodeL s.data.toList := by
  have := decodeL_drop s 0
  rw [List.drop_zero] at this
  rw [this]
  unfold decodeGo
  rw [if_neg h]

theorem drop_at (s : ByteArray) (k : Nat) (h : k < s.size) : s.data.toList.drop k = s[k] :: s.data.toList.drop (k + 1) := List.drop_eq_getElem_cons (by simpa using h)
theorem drop_end (s : ByteArray) (k : Nat) (h : s.size ≤ k) : s.data.toList.drop k = [] := List.drop_of_length_le (by simpa using h)

set_option maxHeartbeats 4000000 in
set_option maxRecDepth 100000 in
theorem fold_any (s t : ByteArray) (w : World) (hE : Env w) (hs : s.size ≤ 1048576) (ht : t.size ≤ 1048576) :
    Calls Tryd.prog 12 #[.string s, .string t] w fun e w' => e = .returned (.bool (Pl.fe s.data.toList t.data.toList)) ∧ Below w.heap.size w w' := by
  obtain ⟨ANS, hA⟩ : ∃ ANS, Pl.fe s.data.toList t.data.toList = ANS := ⟨_, rfl⟩
  rw [hA]
  obtain ⟨M, hM⟩ : ∃ M, min s.size t.size = M := ⟨_, rfl⟩
  have hM1 : M ≤ s.size := by omega
  have hM2 : M ≤ t.size := by omega
  have hMi : min (s.size : Int) (t.size : Int) = (M : Int) := by omega
  go_enter Tryd.func12, Tryd.ntmps12
  go_wp2
  refine wp_scope_jumps 0 (fun a' w' => w' = w ∧ ∃ (k : Nat) (u4 u7 u8 u9 u10 u11 u12 u13 u14 u15 u16 u17 u18 u19 u20 u21 u22 u23 u24 u25 u26 u27 u28 u29 u30 u31 u32 u33 u34 u35 u36 u37 u38 u39 u40 u41 u42 u43 u44 u45 u46 u47 u48 u49 u50 u51 u52 u53 u54 : Value), (k < s.size ∧ k < t.size ∧ Hid (∃ n, (s.data.toList.drop k).length ≤ n ∧ Pl.feU n (s.data.toList.drop k) (t.data.toList.drop k) = ANS)) ∧ a' = { tmps := #[.string s, .string t, undef, undef, u4, .int .i64 (k : Nat), .int .i64 M, u7, u8, u9, u10, u11, u12, u13, u14, u15, u16, u17, u18, u19, u20, u21, u22, u23, u24, u25, u26, u27, u28, u29, u30, u31, u32, u33, u34, u35, u36, u37, u38, u39, u40, u41, u42, u43, u44, u45, u46, u47, u48, u49, u50, u51, u52, u53, u54, undef, undef, undef, undef, undef, undef, undef, undef, undef, undef, undef, undef, undef, undef, undef, undef, undef, undef, undef, undef, undef, undef, undef, undef, undef, undef, undef, undef, undef, undef, undef, undef, undef, undef, undef, undef, undef, undef, undef, undef, undef, undef, undef, undef, undef, undef, undef, undef, undef, undef, undef, undef, undef, undef, undef, undef, undef, undef, undef, undef, undef, undef, undef, undef, undef, undef, undef, undef], defers := [] }) (fun _ _ => 0) rfl ?_ ?_
  · go_wp2
    go_loop [5, 7, 8] (fun i _ _ => ∃ k : Nat, i = .int .i64 k ∧ k ≤ M ∧ Hid (Pl.fe (s.data.toList.drop k) (t.data.toList.drop k) = ANS)) (fun i _ _ => M - (RowKit.intOf i).toNat)
    case atStart =>
      refine ⟨0, rfl, Nat.zero_le _, ?_⟩
      show Pl.fe (s.data.toList.drop 0) (t.data.toList.drop 0) = ANS
      simpa using hA
    case round =>
      obtain ⟨k, rfl, hk, hans⟩ := hrel
      by_cases hlt : k < M
      · have k1 : k < s.size := by omega
        have k2 : k < t.size := by omega
        have hans' := hans.out
        rw [drop_at s k k1, drop_at t k k2, Pl.fe] at hans'
        have a8 : s[k].toNat < 256 := s[k].toNat_lt
        have b8 : t[k].toNat < 256 := t[k].toNat_lt
        obtain ⟨A, hsA⟩ : ∃ A, s[k].toNat = A := ⟨_, rfl⟩
        obtain ⟨B, htB⟩ : ∃ B, t[k].toNat = B := ⟨_, rfl⟩
        have HNU : Hid (¬ (A < 128 ∧ B < 128) → ∃ n, (s.data.toList.drop k).length ≤ n ∧ Pl.feU n (s.data.toList.drop k) (t.data.toList.drop k) = ANS) := fun hl => ⟨_, by rw [drop_at s k k1]; exact Nat.le_refl _, by
          rw [if_neg (by rw [hsA, htB]; exact hl)] at hans'
          rw [drop_at s k k1, drop_at t k k2]
          exact hans'⟩
        rw [hsA] at a8 hans'
        rw [htB] at b8 hans'
        have ho7 := @or_lt7 A B
        by_cases hlow : A < 128 ∧ B < 128
        · rw [if_pos hlow] at hans'
          have hor : (A ||| B) < 128 := ho7.2 hlow
          obtain ⟨hl1, hl2⟩ := hlow
          clear HNU hans ho7
          by_cases heq : B = A
          · subst heq
            have hbm : Pl.byteM B B = true := by simp [Pl.byteM]
            have ho := or_u8 _ _ a8 b8
            rw [if_pos hbm] at hans'
            have HN : Hid _ := hans'
            clear hans' hbm
            go_wp2
            go_round
            case rel => exact ⟨k + 1, by go_num, by omega, HN.out⟩
            case measure => simp [RowKit.intOf]; omega
          · have hne : ¬ (B : Int) = (A : Int) := by omega
            have hneb : ((B : Int) == (A : Int)) = false := by simp; omega
            by_cases hsw : B < A
            · have hbm : Pl.byteM A B = Pl.upLow B A := by unfold Pl.byteM; rw [if_neg hne, if_pos (by omega)]
              rw [hbm] at hans'
              by_cases hul : 65 ≤ B ∧ B ≤ 90 ∧ A = B + 32
              · have hu : Pl.upLow B A = true := by unfold Pl.upLow; simp; omega
                rw [if_pos hu] at hans'
                have HN : Hid _ := hans'
                obtain ⟨u1, u2, u3⟩ := hul
                have ho := or_u8 _ _ a8 b8
                have uz1 : (65 : Int) ≤ B := by omega
                have uz2 : (B : Int) ≤ 90 := by omega
                have ueq : ((A : Int) == (B : Int) + 97 - 65) = true := by simp; omega
                clear hans' hbm hu u3
                go_wp2
                go_round
                case rel => exact ⟨k + 1, by go_num, by omega, HN.out⟩
                case measure => simp [RowKit.intOf]; omega
              · have hu : Pl.upLow B A = false := by unfold Pl.upLow; simp; omega
                rw [hu] at hans'
                simp only [Bool.false_eq_true, if_false] at hans'
                have HN : Hid _ := hans'
                have ho := or_u8 _ _ a8 b8
                clear hans' hbm hu
                by_cases x1 : 65 ≤ B
                · by_cases x2 : B ≤ 90
                  · have ueq : ((A : Int) == (B : Int) + 97 - 65) = false := by simp; omega
                    go_wp2
                    all_goals
                      simp only [Exit.jump]
                      go_ret
                      exact ⟨ret_bool HN.out, Below.refl _ _⟩
                  · have dx : decide ((B : Int) ≤ 90) = false := decide_eq_false (by omega)
                    go_wp2
                    all_goals
                      simp only [Exit.jump]
                      go_ret
                      exact ⟨ret_bool HN.out, Below.refl _ _⟩
                · have dx : decide ((65 : Int) ≤ (B : Int)) = false := decide_eq_false (by omega)
                  go_wp2
                  all_goals
                    simp only [Exit.jump]
                    go_ret
                    exact ⟨ret_bool HN.out, Below.refl _ _⟩
            · have hbm : Pl.byteM A B = Pl.upLow A B := by unfold Pl.byteM; rw [if_neg hne, if_neg (by omega)]
              rw [hbm] at hans'
              by_cases hul : 65 ≤ A ∧ A ≤ 90 ∧ B = A + 32
              · have hu : Pl.upLow A B = true := by unfold Pl.upLow; simp; omega
                rw [if_pos hu] at hans'
                have HN : Hid _ := hans'
                obtain ⟨u1, u2, u3⟩ := hul
                have ho := or_u8 _ _ a8 b8
                have uz1 : (65 : Int) ≤ A := by omega
                have uz2 : (A : Int) ≤ 90 := by omega
                have ueq : ((B : Int) == (A : Int) + 97 - 65) = true := by simp; omega
                clear hans' hbm hu u3
                go_wp2
                go_round
                case rel => exact ⟨k + 1, by go_num, by omega, HN.out⟩
                case measure => simp [RowKit.intOf]; omega
              · have hu : Pl.upLow A B = false := by unfold Pl.upLow; simp; omega
                rw [hu] at hans'
                simp only [Bool.false_eq_true, if_false] at hans'
                have HN : Hid _ := hans'
                have ho := or_u8 _ _ a8 b8
                clear hans' hbm hu
                by_cases x1 : 65 ≤ A
                · by_cases x2 : A ≤ 90
                  · have ueq : ((B : Int) == (A : Int) + 97 - 65) = false := by simp; omega
                    go_wp2
                    all_goals
                      simp only [Exit.jump]
                      go_ret
                      exact ⟨ret_bool HN.out, Below.refl _ _⟩
                  · have dx : decide ((A : Int) ≤ 90) = false := decide_eq_false (by omega)
                    go_wp2
                    all_goals
                      simp only [Exit.jump]
                      go_ret
                      exact ⟨ret_bool HN.out, Below.refl _ _⟩
                · have dx : decide ((65 : Int) ≤ (A : Int)) = false := decide_eq_false (by omega)
                  go_wp2
                  all_goals
                    simp only [Exit.jump]
                    go_ret
                    exact ⟨ret_bool HN.out, Below.refl _ _⟩
        · have hor : ¬ (A ||| B) < 128 := fun h => hlow (ho7.1 h)
          have ho := or_u8 _ _ a8 b8
          have ho8 := or_lt8 a8 b8
          have HN : Hid _ := HNU.out hlow
          clear hans' hans ho7 HNU
          go_wp2
          go_step3
          refine ⟨rfl, rfl, k, ?_⟩
          repeat apply Exists.intro
          exact ⟨⟨k1, k2, HN⟩, rfl⟩
      · have hk' : k = M := by omega
        subst hk'
        have hfin : ANS = decide (s.size = t.size) := by
          have hans' := hans.out
          by_cases h1 : s.size ≤ t.size
          · have e1 : k = s.size := by omega
            rw [drop_end s k (by omega)] at hans'
            by_cases h2 : s.size = t.size
            · rw [drop_end t k (by omega)] at hans'
              rw [decide_eq_true h2, ← hans']
              rfl
            · rw [drop_at t k (by omega)] at hans'
              rw [decide_eq_false h2, ← hans']
              rfl
          · have e1 : k = t.size := by omega
            rw [drop_end t k (by omega), drop_at s k (by omega)] at hans'
            rw [decide_eq_false (by omega), ← hans']
            rfl
        have HF : Hid _ := hfin
        clear hfin hans
        go_wp2
        simp only [Exit.jump]
        go_ret
        refine ⟨ret_bool ?_, Below.refl _ _⟩
        rw [HF.out, Bool.eq_iff_iff]
        simp
        try omega
  · rintro a' w' ⟨rfl, k, u4, u7, u8, u9, u10, u11, u12, u13, u14, u15, u16, u17, u18, u19, u20, u21, u22, u23, u24, u25, u26, u27, u28, u29, u30, u31, u32, u33, u34, u35, u36, u37, u38, u39, u40, u41, u42, u43, u44, u45, u46, u47, u48, u49, u50, u51, u52, u53, u54, ⟨k1, k2, hans⟩, rfl⟩
    obtain ⟨S2, hS2⟩ : ∃ S2, s.extract k s.size = S2 := ⟨_, rfl⟩
    obtain ⟨T2, hT2⟩ : ∃ T2, t.extract k t.size = T2 := ⟨_, rfl⟩
    have lS : S2.data.toList = s.data.toList.drop k := by rw [← hS2]; exact ext_list s k
    have lT : T2.data.toList = t.data.toList.drop k := by rw [← hT2]; exact ext_list t k
    have zS : S2.size ≤ 1048576 := by rw [← hS2, ext_size]; omega
    have zT : T2.size ≤ 1048576 := by rw [← hT2, ext_size]; omega
    rw [← lS, ← lT] at hans
    have HL : Hid _ := hans
    clear hans lS lT
    go_wp2
    clear hS2 hT2
    go_loopw [1, 10, 11, 12, 13] (fun tv _ _ _ _ wr => ∃ (pos : Nat) (t' : ByteArray), tv = .string t' ∧ pos ≤ S2.size ∧ t'.size ≤ 1048576 ∧ wr.heap[w'.heap.size]? = some (.stringIter S2 pos) ∧ Below w'.heap.size w' wr ∧
        Hid (∃ n, (S2.data.toList.drop pos).length ≤ n ∧ Pl.feU n (S2.data.toList.drop pos) t'.data.toList = ANS))
      (fun _ _ _ _ _ wr => S2.size - wr.iterPos w'.heap.size)
    case atStart =>
      refine ⟨0, T2, rfl, Nat.zero_le _, zT, ?_, ?_, ?_⟩
      · exact World.iter_heap w' S2 0
      · exact (Below.refl _ w').alloc (Nat.le_refl _) _
      · simpa using HL
    case round =>
      obtain ⟨pos, t', rfl, hpos, ht', hit, hB, hans⟩ := hrel
      by_cases hlt : pos < S2.size
      · have hnx := fun ty => run_next_any_at (P := Tryd.prog) wr w'.heap.size S2 pos ty hit hlt
        obtain ⟨D, hD⟩ : ∃ D, Utf8.decode S2 pos = D := ⟨_, rfl⟩
        have hDL : decodeL (S2.data.toList.drop pos) = D := by rw [decodeL_drop]; exact hD
        rw [hD] at hnx
        obtain ⟨n0, hn0, hfe⟩ := hans.out
        have hne : S2.data.toList.drop pos ≠ [] := by
          intro h
          have := congrArg List.length h
          simp at this
          omega
        obtain ⟨n, rfl⟩ : ∃ n, n0 = n + 1 := ⟨n0 - 1, by have := List.length_pos_iff.2 hne; omega⟩
        rw [Pl.feU, if_neg hne, hDL] at hfe
        have hw1 : 1 ≤ D.2 := by rw [← hDL]; exact decodeL_width _
        have hw2 : pos + D.2 ≤ S2.size := by
          have hx := ext_list S2 pos
          have hxs := ext_size S2 pos
          have h1 := decodeGo_L (S2.extract pos S2.size) (by omega)
          rw [hx, hDL] at h1
          have h2 := decodeGo_le_size (S2.extract pos S2.size)
          rw [h1] at h2
          omega
        have hnl : ((S2.data.toList.drop pos).drop D.2).length ≤ n := by rw [List.length_drop]; omega
        rw [List.drop_drop] at hfe hnl
        clear hans hn0 hD
        by_cases ht0 : t'.size = 0
        · have htl : t'.data.toList = [] := List.eq_nil_of_length_eq_zero (by simpa using ht0)
          rw [if_pos htl] at hfe
          have HN : Hid _ := hfe
          clear hfe
          go_wp2
          simp only [Exit.jump]
          go_ret
          exact ⟨ret_bool HN.out, below_iterAt hB (Nat.le_refl _) _ _⟩
        · have htl : t'.data.toList ≠ [] := fun h => ht0 (by have := congrArg List.length h; simpa using this)
          have hDT := decodeGo_L t' ht0
          rw [if_neg htl, ← hDT] at hfe
          have hws := decodeGo_le_size t'
          obtain ⟨E, hE2⟩ : ∃ E, decodeGo t' = E := ⟨_, rfl⟩
          rw [hE2] at hfe hws
          have hE1 : Env (wr.iterAt w'.heap.size S2 (pos + D.2)) := hE.below (below_iterAt hB (Nat.le_refl _) _ _)
          have HFE : Hid _ := hfe
          have HE2 : Hid _ := hE2
          have HDT : Hid _ := hDT
          clear hfe hE2 hDT
          go_wp2_with fail
          refine (Tryd.utf8_DecodeRuneInString t' _ hE1.tabs).mono ?_
          rintro e w3 ⟨rfl, hb3⟩
          rw [HE2.out]
          have hB3 : Below w'.heap.size w' w3 := (below_iterAt hB (Nat.le_refl _) S2 (pos + D.2)).trans (hb3.mono (by rw [iterAt_size]; exact hB.size))
          have hit3 : w3.heap[w'.heap.size]? = some (.stringIter S2 (pos + D.2)) := by
            rw [hb3.block _ (by rw [iterAt_size]; exact (Array.getElem?_eq_some_iff.1 hit).1)]
            exact iterAt_heap wr _ S2 pos _ hit
          have hE3 := hE1.below hb3
          have hp1 : wr.iterPos w'.heap.size = pos := by simp [World.iterPos, hit]
          have hp3 : w3.iterPos w'.heap.size = pos + D.2 := by simp [World.iterPos, hit3]
          have hmeas : S2.size - w3.iterPos w'.heap.size < S2.size - wr.iterPos w'.heap.size := by rw [hp1, hp3]; omega
          have HME : Hid _ := hmeas
          clear hnx hE1 hb3 hit hB hp1 hp3 hmeas
          obtain ⟨T3, hT3⟩ : ∃ T3, t'.extract E.2 t'.size = T3 := ⟨_, rfl⟩
          have lT3 : T3.data.toList = t'.data.toList.drop E.2 := by rw [← hT3]; exact ext_list t' E.2
          have zT3 : T3.size ≤ 1048576 := by rw [← hT3, ext_size]; omega
          have hwz : (E.2 : Int) ≤ (t'.size : Int) := by omega
          have hfe := HFE.out
          rw [← lT3] at hfe
          have HFE3 : Hid _ := hfe
          clear hfe HFE lT3
          by_cases heq : (E.1 : Int) = (D.1 : Int)
          · have hm : Pl.runeM (D.1 : Int) (E.1 : Int) = true := by unfold Pl.runeM; rw [if_pos heq]
            have hfe := HFE3.out
            rw [if_pos hm] at hfe
            have HN : Hid (∃ n, (S2.data.toList.drop (pos + D.2)).length ≤ n ∧ Pl.feU n (S2.data.toList.drop (pos + D.2)) T3.data.toList = ANS) := ⟨n, hnl, hfe⟩
            have heqb : ((E.1 : Int) == (D.1 : Int)) = true := by simpa using heq
            clear hfe hm heq
            go_wp2
            go_roundw
            case rel => exact ⟨pos + D.2, T3, rfl, hw2, zT3, hit3, hB3, HN⟩
            case measure => exact HME.out
          · have hneb : ((E.1 : Int) == (D.1 : Int)) = false := by simpa using heq
            obtain ⟨a, b, hab, hor⟩ : ∃ a b : Nat, a < b ∧ ((E.1 < D.1 ∧ a = E.1 ∧ b = D.1) ∨ (¬ E.1 < D.1 ∧ a = D.1 ∧ b = E.1)) := by
              by_cases h : E.1 < D.1
              · exact ⟨E.1, D.1, h, .inl ⟨h, rfl, rfl⟩⟩
              · exact ⟨D.1, E.1, by omega, .inr ⟨h, rfl, rfl⟩⟩
            have hback : Pl.back 3 a (Pl.sf a) = true := Pl.closes a (by omega) (by
              have r1 : D.1 ≤ 1114111 := by rw [← hDL]; exact decodeL_max _
              have r2 : E.1 ≤ 1114111 := by rw [← HE2.out, HDT.out]; exact decodeL_max _
              omega)
            have hrm : Pl.runeM (D.1 : Int) (E.1 : Int) = Pl.runeLt a b := by
              unfold Pl.runeM
              rw [if_neg heq]
              rcases hor with ⟨h, rfl, rfl⟩ | ⟨h, rfl, rfl⟩
              · rw [if_pos (by omega)]
              · rw [if_neg (by omega)]
            have hfe := HFE3.out
            rw [hrm] at hfe
            have HFE4 : Hid _ := hfe
            have HNL : Hid _ := hnl
            clear hfe hrm HFE3 heq hnl
            go_upto_if 87 with fail
            go_cut [10, 11] from 68 to 119 (fun s10 s11 wx => s10 = .int .i32 a ∧ s11 = .int .i32 b ∧ w3 = wx)
            case first =>
              rcases hor with ⟨h, h1, h2⟩ | ⟨h, h1, h2⟩
              · have hz : (E.1 : Int) < (D.1 : Int) := by omega
                go_wp2
                go_meet
                exact ⟨by rw [h1], by rw [h2], rfl⟩
              · have hz : ¬ (E.1 : Int) < (D.1 : Int) := by omega
                go_wp2
                go_meet
                exact ⟨by rw [h1], by rw [h2], rfl⟩
            case rest =>
              obtain ⟨rfl, rfl, rfl⟩ := hcut
              clear hor hneb
              by_cases hb : b < 128
              · have hrl : Pl.runeLt a b = Pl.upLow a b := by unfold Pl.runeLt; rw [if_pos (by omega)]
                have hfe := HFE4.out
                rw [hrl] at hfe
                by_cases hul : 65 ≤ a ∧ a ≤ 90 ∧ b = a + 32
                · have hu : Pl.upLow a b = true := by unfold Pl.upLow; simp; omega
                  rw [if_pos hu] at hfe
                  have HN : Hid (∃ n, (S2.data.toList.drop (pos + D.2)).length ≤ n ∧ Pl.feU n (S2.data.toList.drop (pos + D.2)) T3.data.toList = ANS) := ⟨n, HNL.out, hfe⟩
                  obtain ⟨u1, u2, u3⟩ := hul
                  have uz1 : (65 : Int) ≤ a := by omega
                  have uz2 : (a : Int) ≤ 90 := by omega
                  have ueq : ((b : Int) == (a : Int) + 97 - 65) = true := by simp; omega
                  clear hfe hrl hu u3 HFE4
                  go_wp2
                  go_roundw
                  case rel => exact ⟨pos + D.2, T3, rfl, hw2, zT3, hit3, hB3, HN⟩
                  case measure => exact HME.out
                · have hu : Pl.upLow a b = false := by unfold Pl.upLow; simp; omega
                  rw [hu] at hfe
                  simp only [Bool.false_eq_true, if_false] at hfe
                  have HN : Hid _ := hfe
                  clear hfe hrl hu HFE4
                  by_cases x1 : 65 ≤ a
                  · by_cases x2 : a ≤ 90
                    · have ueq : ((b : Int) == (a : Int) + 97 - 65) = false := by simp; omega
                      go_wp2
                      all_goals
                        simp only [Exit.jump]
                        go_ret
                        exact ⟨ret_bool HN.out, hB3⟩
                    · have dx : decide ((a : Int) ≤ 90) = false := decide_eq_false (by omega)
                      go_wp2
                      all_goals
                        simp only [Exit.jump]
                        go_ret
                        exact ⟨ret_bool HN.out, hB3⟩
                  · have dx : decide ((65 : Int) ≤ (a : Int)) = false := decide_eq_false (by omega)
                    go_wp2
                    all_goals
                      simp only [Exit.jump]
                      go_ret
                      exact ⟨ret_bool HN.out, hB3⟩
              · have hrl : Pl.runeLt a b = decide (Pl.lf 3 a b (Pl.sf a) = b) := by unfold Pl.runeLt; rw [if_neg (by omega)]
                have hfe := HFE4.out
                rw [hrl] at hfe
                have HFE5 : Hid _ := hfe
                clear hfe hrl HFE4
                go_wp2_with fail
                refine (sf_any a w3 hE3).mono ?_
                rintro e w4 ⟨rfl, q, rfl⟩
                obtain ⟨LF, hLF⟩ : ∃ LF, Pl.lf 3 a b (Pl.sf a) = LF := ⟨_, rfl⟩
                have hfe := HFE5.out
                rw [hLF] at hfe
                have HFE6 : Hid _ := hfe
                have HLF : Hid _ := hLF
                clear hfe HFE5 hLF
                go_wp2
                go_loopg [13] 4 (fun g s13 wx => ∃ (rv : Int) (q m : Nat), s13 = .int .i32 rv ∧ wx = w3.drewN q ∧ m < g ∧ Pl.back m a rv = true ∧ Hid (Pl.lf m a b rv = LF))
                case atStart => exact ⟨_, q, 3, rfl, rfl, by omega, hback, HLF⟩
                case round =>
                  obtain ⟨rv, q2, m, rfl, rfl, hmg, hbk, hlf⟩ := hrel
                  by_cases hra : rv = a
                  · have hLFv : LF = rv := by
                      have h := hlf.out
                      have e : Pl.lf m a b rv = rv := by cases m <;> simp [Pl.lf, hra]
                      rw [← h, e]
                    have hne : ¬ LF = (b : Int) := by omega
                    have hfe := HFE6.out
                    rw [decide_eq_false hne] at hfe
                    simp only [Bool.false_eq_true, if_false] at hfe
                    have HN : Hid _ := hfe
                    have hab2 : ((a : Int) == (b : Int)) = false := by simp; omega
                    clear hfe hne hLFv hlf HFE6 HLF hbk
                    subst hra
                    go_wp2
                    simp only [Exit.jump]
                    go_ret
                    exact ⟨ret_bool HN.out, below_drewN hB3 q2⟩
                  · obtain ⟨m', rfl⟩ : ∃ m', m = m' + 1 := by
                      cases m with
                      | zero => simp [Pl.back] at hbk; exact absurd hbk hra
                      | succ m' => exact ⟨m', rfl⟩
                    have hbk2 : Pl.back m' a (Pl.sf rv) = true := by simpa [Pl.back, hra] using hbk
                    have hrab : (rv == (a : Int)) = false := by simpa using hra
                    by_cases hlt2 : rv < (b : Int)
                    · have hlf2 : Pl.lf m' a b (Pl.sf rv) = LF := by
                        have h := hlf.out
                        rw [Pl.lf, if_pos ⟨hra, hlt2⟩] at h
                        exact h
                      have HLF2 : Hid _ := hlf2
                      have HBK2 : Hid _ := hbk2
                      obtain ⟨g', rfl⟩ : ∃ g', gk = g' + 1 := ⟨gk - 1, by omega⟩
                      have hE4 : Env (w3.drewN q2) := hE3.below (below_drewN (Below.refl _ _) q2)
                      clear hlf hlf2 hbk hbk2 HLF
                      go_wp2_with fail
                      refine (sf_any rv _ hE4).mono ?_
                      rintro e w5 ⟨rfl, q5, rfl⟩
                      go_wp2
                      go_roundg g'
                      case measure => omega
                      case rel => exact ⟨_, q2 + q5, m', rfl, rfl, by omega, HBK2.out, HLF2⟩
                    · have hLFv : LF = rv := by
                        have h := hlf.out
                        rw [Pl.lf, if_neg (fun hh => hlt2 hh.2)] at h
                        exact h.symm
                      subst hLFv
                      have hfe := HFE6.out
                      by_cases hrb : LF = (b : Int)
                      · rw [decide_eq_true hrb, if_pos rfl] at hfe
                        have HN : Hid (∃ n, (S2.data.toList.drop (pos + D.2)).length ≤ n ∧ Pl.feU n (S2.data.toList.drop (pos + D.2)) T3.data.toList = ANS) := ⟨n, HNL.out, hfe⟩
                        have hrbb : (LF == (b : Int)) = true := by simpa using hrb
                        clear hfe hlf hbk hbk2 HLF HFE6 hrb
                        go_wp2
                        go_roundw
                        case rel => exact ⟨pos + D.2, T3, rfl, hw2, zT3, hit3, below_drewN hB3 q2, HN⟩
                        case measure => exact HME.out
                      · rw [decide_eq_false hrb] at hfe
                        simp only [Bool.false_eq_true, if_false] at hfe
                        have HN : Hid _ := hfe
                        have hrbb : (LF == (b : Int)) = false := by simpa using hrb
                        clear hfe hlf hbk hbk2 HLF HFE6 hrb
                        go_wp2
                        simp only [Exit.jump]
                        go_ret
                        exact ⟨ret_bool HN.out, below_drewN hB3 q2⟩
      · have hd : S2.data.toList.drop pos = [] := drop_end S2 pos (by omega)
        have hnx := fun ty => run_next_end_at (P := Tryd.prog) wr w'.heap.size S2 pos ty hit hlt
        have hfin : ANS = decide (t'.size = 0) := by
          obtain ⟨n, _, hfe⟩ := hans.out
          rw [hd] at hfe
          have e : Pl.feU n [] t'.data.toList = t'.data.toList.isEmpty := by cases n <;> rfl
          rw [e] at hfe
          rw [← hfe]
          cases hd2 : t'.data.toList with
          | nil =>
            have : t'.size = 0 := by have := congrArg List.length hd2; simpa using this
            simp [this]
          | cons x xs =>
            have : t'.size ≠ 0 := by have := congrArg List.length hd2; simp at this; omega
            simp [this]
        have HF : Hid _ := hfin
        clear hfin hans hd
        go_wp2
        simp only [Exit.jump]
        go_ret
        refine ⟨ret_bool ?_, hB⟩
        rw [HF.out, Bool.eq_iff_iff]
        simp

end Go.Proofs.Qxb6616414aDoor
