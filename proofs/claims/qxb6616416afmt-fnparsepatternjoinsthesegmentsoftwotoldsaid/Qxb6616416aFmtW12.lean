/-
  The law: both are taken, a has no many.
-/
import Derived.Test.Qxb6616416aFmtW11
namespace Go.Proofs.Qxb6616416aFmt
open Go.RowKit Go.Extern.Stop Go.Stop Go.Extern

set_option maxRecDepth 100000 in
set_option maxHeartbeats 2000000 in
theorem fn_ok_right (F : Interp) (a b : ByteArray) (w : World) (hE : Env F w) (fit : Fit a b) (ra rb : List Pl.Seg × Int) (ha : parsed a.data.toList = some ra) (hb : parsed b.data.toList = some rb)
    (hla : ra.1.length ≤ 65536) (hlb : rb.1.length ≤ 65536) (hm : ra.2 < 0) (hm2 : 0 ≤ rb.2) (hm3 : rb.2 ≤ 65536)
    (hca : ra.1.length = a.data.toList.count 47) (hcb : rb.1.length = b.data.toList.count 47) (mj : Int) (hmj : mj = (ra.1.length : Int) + rb.2) (hj : parsed (a.data.toList ++ b.data.toList) = some (ra.1 ++ rb.1, mj)) :
    Calls Tryf.prog 3 #[.string a, .string b] w fun e w' => e = .returned (.bool true) ∧ Below w.heap.size w w' := by
  obtain ⟨h1, h2, h3, h4, h5, h6, h7, h8, h9, h10⟩ := fit
  have h11 : 0 < a.size := by omega
  have h12 : 0 < b.size := by omega
  have d2 : decide ((a.size : Int) < 2) = false := decide_eq_false (by omega)
  have hpa := hp_of h11 h5
  have hpb := hp_of h12 h9
  have HPJ : Hid _ := app_hp (b := b) hpa
  have hjn := app_ne (a := a) (b := b) h4 h8
  have HPA : Hid _ := hpa
  have HPB : Hid _ := hpb
  have HJ : Hid _ := hj
  obtain ⟨sa, ma⟩ := ra
  obtain ⟨sb, mb⟩ := rb
  have HA : Hid _ := ha
  have HB : Hid _ := hb
  simp only at hm hla hlb hm2 hm3 hmj
  have HMJ : Hid _ := hmj
  have HCA : Hid _ := hca
  have HCB : Hid _ := hcb
  clear hpa hpb hj ha hb hca hcb hmj
  go_enter Tryf.func3, Tryf.ntmps3
  go_wp2_with fail
  refine (bytes_any a b w (by unfold maxLen; omega) (by unfold maxLen; omega)).mono ?_
  rintro e w ⟨rfl, rfl⟩
  rw [decide_eq_true h1]
  go_wp2_with fail
  refine (pp_yes F a w (by omega) hE h11 h7 HPA.out sa ma HA.out).mono ?_
  rintro e w1 ⟨ba, gsa, rfl, hSA, hta, hba, hb1⟩
  have hE1 := hE.below hb1 hE.size
  have hE1' := hE1.below ((Below.refl _ w1).alloc (Nat.le_refl _) (.cells #[.string a, .slice (some ⟨ba, 0, none⟩) gsa.length gsa.length, .int .i64 ma] 25)) hE1.size
  have hRA := Row.new w1 [.string a, .slice (some ⟨ba, 0, none⟩) gsa.length gsa.length, .int .i64 ma] 25
  have hSA1 := hSA.alloc (.cells #[.string a, .slice (some ⟨ba, 0, none⟩) gsa.length gsa.length, .int .i64 ma] 25)
  have HTA : Hid _ := hta
  have hgla : gsa.length ≤ 65536 := by have := congrArg List.length hta; simp [toSegs] at this; omega
  clear hta hSA
  go_wp2_with fail
  refine (pp_yes F b _ (by omega) hE1' h12 h10 HPB.out sb mb HB.out).mono ?_
  rintro e w2 ⟨bb, gsb, rfl, hSB, htb, hbb, hb2⟩
  have hE2 := hE1'.below hb2 hE1'.size
  have hE2' := hE2.below ((Below.refl _ w2).alloc (Nat.le_refl _) (.cells #[.string b, .slice (some ⟨bb, 0, none⟩) gsb.length gsb.length, .int .i64 mb] 25)) hE2.size
  have hRA2 := (hRA.below hb2 hRA.lt).alloc (.cells #[.string b, .slice (some ⟨bb, 0, none⟩) gsb.length gsb.length, .int .i64 mb] 25)
  have hSA2 := (hSA1.below hb2 hSA1.lt).alloc (.cells #[.string b, .slice (some ⟨bb, 0, none⟩) gsb.length gsb.length, .int .i64 mb] 25)
  have hRB := Row.new w2 [.string b, .slice (some ⟨bb, 0, none⟩) gsb.length gsb.length, .int .i64 mb] 25
  have hSB2 := hSB.alloc (.cells #[.string b, .slice (some ⟨bb, 0, none⟩) gsb.length gsb.length, .int .i64 mb] 25)
  have HTB : Hid _ := htb
  have hglb : gsb.length ≤ 65536 := by have := congrArg List.length htb; simp [toSegs] at this; omega
  clear htb hSB hRA hSA1
  go_wp2_with fail
  refine (pp_yes F (a ++ b) _ (by simp; omega) hE2' (by simp; omega) hjn HPJ.out (sa ++ sb) mj (by rw [app_data]; exact HJ.out)).mono ?_
  rintro e w3 ⟨bj, gsj, rfl, hSJ, htj, hbj, hb3⟩
  have hbx := hb1.trans ((((Below.refl _ w1).alloc (Nat.le_refl _) _).trans (hb2.mono (by simp))).mono hb1.size)
  have hby := hbx.trans ((((Below.refl _ w2).alloc (Nat.le_refl _) _).trans (hb3.mono (by simp))).mono hbx.size)
  have hgj : gsj = gsa ++ gsb := by
    apply toSegs_inj
    rw [htj, ← HTA.out, ← HTB.out]
    simp [toSegs]
  have hgl := congrArg List.length hgj
  rw [List.length_append] at hgl
  have hgl1 : gsj.length ≤ gsa.length + gsb.length := by omega
  have hgl2 : gsa.length + gsb.length ≤ gsj.length := by omega
  have HGJ : Hid _ := hgj
  clear htj hgl hgj hbj
  have hRA3 := (hRA2.below hb3 hRA2.lt).alloc (.cells #[.string (a ++ b), .slice (some ⟨bj, 0, none⟩) gsj.length gsj.length, .int .i64 mj] 25)
  have hSA3 := (hSA2.below hb3 hSA2.lt).alloc (.cells #[.string (a ++ b), .slice (some ⟨bj, 0, none⟩) gsj.length gsj.length, .int .i64 mj] 25)
  have hRB3 := (hRB.below hb3 hRB.lt).alloc (.cells #[.string (a ++ b), .slice (some ⟨bj, 0, none⟩) gsj.length gsj.length, .int .i64 mj] 25)
  have hSB3 := (hSB2.below hb3 hSB2.lt).alloc (.cells #[.string (a ++ b), .slice (some ⟨bj, 0, none⟩) gsj.length gsj.length, .int .i64 mj] 25)
  have hRJ3 := Row.new w3 [.string (a ++ b), .slice (some ⟨bj, 0, none⟩) gsj.length gsj.length, .int .i64 mj] 25
  have hSJ3 := hSJ.alloc (.cells #[.string (a ++ b), .slice (some ⟨bj, 0, none⟩) gsj.length gsj.length, .int .i64 mj] 25)
  have hbz := hby.alloc hby.size (.cells #[.string (a ++ b), .slice (some ⟨bj, 0, none⟩) gsj.length gsj.length, .int .i64 mj] 25)
  clear hRA2 hSA2 hRB hSB2 hSJ hE1 hE1' hE2 hE2' hb1 hb2 hb3 hbx hby
  have c0 := hRA3.cell 0 _ rfl
  have c1 := hRA3.cell 1 _ rfl
  have c2 := hRA3.cell 2 _ rfl
  go_wp2_with fail
  clear c0 c1 c2 hbb
  generalize (w3.alloc (.cells #[.string (a ++ b), .slice (some ⟨bj, 0, none⟩) gsj.length gsj.length, .int .i64 mj] 25)) = W at hRA3 hSA3 hRB3 hSB3 hRJ3 hSJ3 hbz ⊢
  generalize w1.heap.size = pA at hRA3 ⊢
  generalize w2.heap.size = pB at hRB3 ⊢
  generalize w3.heap.size = pJ at hRJ3 ⊢
  refine (segs_any a ba gsa.length ma gsa W (by omega) hSA3).mono ?_
  rintro e w4 ⟨rfl, hKA, hTA, hb4⟩
  have hRA4 := hRA3.below hb4 hRA3.lt
  have hRB4 := hRB3.below hb4 hRB3.lt
  have hSB4 := hSB3.below hb4 hSB3.lt
  have hRJ4 := hRJ3.below hb4 hRJ3.lt
  have hSJ4 := hSJ3.below hb4 hSJ3.lt
  have hbw := hbz.trans (hb4.mono hbz.size)
  clear hRA3 hSA3 hRB3 hSB3 hRJ3 hSJ3 hbz hb4
  generalize W.heap.size + 1 + 1 = bta at hTA ⊢
  generalize W.heap.size + 1 = bka at hKA ⊢
  have c0 := hRB4.cell 0 _ rfl
  have c1 := hRB4.cell 1 _ rfl
  have c2 := hRB4.cell 2 _ rfl
  go_wp2_with fail
  clear c0 c1 c2
  refine (segs_any b bb gsb.length mb gsb w4 (by omega) hSB4).mono ?_
  rintro e w5 ⟨rfl, hKB, hTB, hb5⟩
  have hbv := hbw.trans (hb5.mono hbw.size)
  have hKA5 := hKA.below hb5 hKA.lt
  have hTA5 := hTA.below hb5 hTA.lt
  have hRA5 := hRA4.below hb5 hRA4.lt
  have hRB5 := hRB4.below hb5 hRB4.lt
  have hRJ5 := hRJ4.below hb5 hRJ4.lt
  have hSJ5 := hSJ4.below hb5 hSJ4.lt
  clear hKA hTA hRA4 hRB4 hSB4 hRJ4 hSJ4 hbw hb5
  generalize w4.heap.size + 1 + 1 = btb at hTB ⊢
  generalize w4.heap.size + 1 = bkb at hKB ⊢
  have c0 := hRJ5.cell 0 _ rfl
  have c1 := hRJ5.cell 1 _ rfl
  have c2 := hRJ5.cell 2 _ rfl
  go_wp2_with fail
  clear c0 c1 c2
  refine (segs_any (a ++ b) bj gsj.length mj gsj w5 (by omega) hSJ5).mono ?_
  rintro e w6 ⟨rfl, hKJ, hTJ, hb6⟩
  have hKA6 := hKA5.below hb6 hKA5.lt
  have hTA6 := hTA5.below hb6 hTA5.lt
  have hKB6 := hKB.below hb6 hKB.lt
  have hTB6 := hTB.below hb6 hTB.lt
  have hRA6 := hRA5.below hb6 hRA5.lt
  have hRB6 := hRB5.below hb6 hRB5.lt
  have hRJ6 := hRJ5.below hb6 hRJ5.lt
  have hbu := hbv.trans (hb6.mono hbv.size)
  clear hKA5 hTA5 hKB hTB hRA5 hRB5 hRJ5 hSJ5 hbv hb6
  generalize w5.heap.size + 1 + 1 = btj at hTJ ⊢
  generalize w5.heap.size + 1 = bkj at hKJ ⊢
  go_wp2_with fail
  refine (count_any a w6 (by unfold maxLen; omega)).mono ?_
  rintro e w6 ⟨rfl, rfl⟩
  have hca2 : gsa.length = a.data.toList.count 47 := by rw [← HCA.out, ← HTA.out]; simp [toSegs]
  rw [← hca2]
  clear hca2
  go_wp2_with fail
  refine (count_any b w6 (by unfold maxLen; omega)).mono ?_
  rintro e w6 ⟨rfl, rfl⟩
  have hcb2 : gsb.length = b.data.toList.count 47 := by rw [← HCB.out, ← HTB.out]; simp [toSegs]
  rw [← hcb2]
  clear hcb2
  go_wp2_with fail
  go_loopw [20] (fun i wr => ∃ (k q : Nat), k ≤ gsa.length ∧ i = .int .i64 k ∧ wr = w6.drewN q) (fun i _ => gsa.length - (intOf i).toNat)
  case atStart => exact ⟨0, 0, Nat.zero_le _, rfl, rfl⟩
  case round =>
    obtain ⟨k, q, hk, rfl, rfl⟩ := hrel
    by_cases hlt : k < gsa.length
    · obtain ⟨⟨g1, g2⟩, hg⟩ : ∃ g, gsa[k]? = some g := ⟨gsa[k], List.getElem?_eq_getElem hlt⟩
      have hgjk : gsj[k]? = some (g1, g2) := by rw [HGJ.out, List.getElem?_append_left hlt]; exact hg
      have k1 := hKA6.cell k (.int .i64 g1) (by rw [List.getElem?_map, hg]; rfl)
      have k2 := hTA6.cell k (.string g2) (by rw [List.getElem?_map, hg]; rfl)
      have k3 := hKJ.cell k (.int .i64 g1) (by rw [List.getElem?_map, hgjk]; rfl)
      have k4 := hTJ.cell k (.string g2) (by rw [List.getElem?_map, hgjk]; rfl)
      have l1 : (k : Int) < (gsa.length : Int) := by omega
      have l2 : (k : Int) < (gsj.length : Int) := by omega
      clear hg hgjk
      go_wp2
      go_quiet (fail)
      go_wp2
      go_light
      go_roundw
      case rel => exact ⟨k + 1, q + nq, by omega, by go_num, rfl⟩
      case measure => simp [intOf]; omega
    · have hka : k = gsa.length := by omega
      clear hlt hk
      subst hka
      go_wp2
      go_loopw [21] (fun i wr => ∃ (k q : Nat), k ≤ gsb.length ∧ i = .int .i64 k ∧ wr = w6.drewN q) (fun i _ => gsb.length - (intOf i).toNat)
      case atStart => exact ⟨0, q, Nat.zero_le _, rfl, rfl⟩
      case round =>
        obtain ⟨k, q, hk, rfl, rfl⟩ := hrel
        by_cases hlt : k < gsb.length
        · obtain ⟨⟨g1, g2⟩, hg⟩ : ∃ g, gsb[k]? = some g := ⟨gsb[k], List.getElem?_eq_getElem hlt⟩
          have hgjk : gsj[gsa.length + k]? = some (g1, g2) := by rw [HGJ.out, List.getElem?_append_right (by omega), Nat.add_sub_cancel_left]; exact hg
          have k1 := hKB6.cell k (.int .i64 g1) (by rw [List.getElem?_map, hg]; rfl)
          have k2 := hTB6.cell k (.string g2) (by rw [List.getElem?_map, hg]; rfl)
          have k3 := hKJ.cell (gsa.length + k) (.int .i64 g1) (by rw [List.getElem?_map, hgjk]; rfl)
          have k4 := hTJ.cell (gsa.length + k) (.string g2) (by rw [List.getElem?_map, hgjk]; rfl)
          have l1 : (k : Int) < (gsb.length : Int) := by omega
          have l2 : (gsa.length : Int) + (k : Int) < (gsj.length : Int) := by omega
          clear hg hgjk
          go_wp2
          go_quiet (fail)
          go_wp2
          go_light
          go_roundw
          case rel => exact ⟨k + 1, q + nq, by omega, by go_num, rfl⟩
          case measure => simp [intOf]; omega
        · have hRA7 : Row (w6.drewN q) pA 25 _ := hRA6
          have hRB7 : Row (w6.drewN q) pB 25 _ := hRB6
          have hRJ7 : Row (w6.drewN q) pJ 25 _ := hRJ6
          have hbt : Below w.heap.size w (w6.drewN q) := below_drewN hbu q
          clear hRA6 hRB6 hRJ6 hKA6 hTA6 hKB6 hTB6 hKJ hTJ hbu
          generalize w6.drewN q = w7 at hRA7 hRB7 hRJ7 hbt ⊢
          have hq : (mj == (gsa.length : Int) + mb) = true := by
            have hgs : gsa.length = sa.length := by rw [← HTA.out]; simp [toSegs]
            rw [hgs]
            exact beq_iff_eq.2 HMJ.out
          have c0 := hRJ7.cell 0 _ rfl
          have c1 := hRJ7.cell 1 _ rfl
          have c2 := hRJ7.cell 2 _ rfl
          go_wp2_with fail
          refine (string_any (a ++ b) _ mj w7).mono ?_
          rintro e w8 ⟨rfl, hb8⟩
          have hRA8 := hRA7.below hb8 hRA7.lt
          have hRB8 := hRB7.below hb8 hRB7.lt
          have hbs := hbt.trans (hb8.mono hbt.size)
          clear c0 c1 c2 hRA7 hRB7 hRJ7 hbt hb8
          have c0 := hRA8.cell 0 _ rfl
          have c1 := hRA8.cell 1 _ rfl
          have c2 := hRA8.cell 2 _ rfl
          go_wp2_with fail
          refine (string_any a _ ma w8).mono ?_
          rintro e w9 ⟨rfl, hb9⟩
          have hRB9 := hRB8.below hb9 hRB8.lt
          have hbr := hbs.trans (hb9.mono hbs.size)
          clear c0 c1 c2 hRA8 hRB8 hbs hb9
          have c0 := hRB9.cell 0 _ rfl
          have c1 := hRB9.cell 1 _ rfl
          have c2 := hRB9.cell 2 _ rfl
          go_wp2_with fail
          refine (string_any b _ mb w9).mono ?_
          rintro e w10 ⟨rfl, hb10⟩
          have hbq := hbr.trans (hb10.mono hbr.size)
          go_wp2
          go_light
          go_ret
          exact ⟨rfl, hbq⟩

set_option maxRecDepth 100000 in
set_option maxHeartbeats 2000000 in
theorem fn_ok_none (F : Interp) (a b : ByteArray) (w : World) (hE : Env F w) (fit : Fit a b) (ra rb : List Pl.Seg × Int) (ha : parsed a.data.toList = some ra) (hb : parsed b.data.toList = some rb)
    (hla : ra.1.length ≤ 65536) (hlb : rb.1.length ≤ 65536) (hm : ra.2 < 0) (hm2 : rb.2 < 0)
    (hca : ra.1.length = a.data.toList.count 47) (hcb : rb.1.length = b.data.toList.count 47) (hj : parsed (a.data.toList ++ b.data.toList) = some (ra.1 ++ rb.1, -1)) :
    Calls Tryf.prog 3 #[.string a, .string b] w fun e w' => e = .returned (.bool true) ∧ Below w.heap.size w w' := by
  obtain ⟨h1, h2, h3, h4, h5, h6, h7, h8, h9, h10⟩ := fit
  have h11 : 0 < a.size := by omega
  have h12 : 0 < b.size := by omega
  have d2 : decide ((a.size : Int) < 2) = false := decide_eq_false (by omega)
  have hpa := hp_of h11 h5
  have hpb := hp_of h12 h9
  have HPJ : Hid _ := app_hp (b := b) hpa
  have hjn := app_ne (a := a) (b := b) h4 h8
  have HPA : Hid _ := hpa
  have HPB : Hid _ := hpb
  have HJ : Hid _ := hj
  obtain ⟨sa, ma⟩ := ra
  obtain ⟨sb, mb⟩ := rb
  have HA : Hid _ := ha
  have HB : Hid _ := hb
  simp only at hm hla hlb hm2
  have HCA : Hid _ := hca
  have HCB : Hid _ := hcb
  clear hpa hpb hj ha hb hca hcb
  go_enter Tryf.func3, Tryf.ntmps3
  go_wp2_with fail
  refine (bytes_any a b w (by unfold maxLen; omega) (by unfold maxLen; omega)).mono ?_
  rintro e w ⟨rfl, rfl⟩
  rw [decide_eq_true h1]
  go_wp2_with fail
  refine (pp_yes F a w (by omega) hE h11 h7 HPA.out sa ma HA.out).mono ?_
  rintro e w1 ⟨ba, gsa, rfl, hSA, hta, hba, hb1⟩
  have hE1 := hE.below hb1 hE.size
  have hE1' := hE1.below ((Below.refl _ w1).alloc (Nat.le_refl _) (.cells #[.string a, .slice (some ⟨ba, 0, none⟩) gsa.length gsa.length, .int .i64 ma] 25)) hE1.size
  have hRA := Row.new w1 [.string a, .slice (some ⟨ba, 0, none⟩) gsa.length gsa.length, .int .i64 ma] 25
  have hSA1 := hSA.alloc (.cells #[.string a, .slice (some ⟨ba, 0, none⟩) gsa.length gsa.length, .int .i64 ma] 25)
  have HTA : Hid _ := hta
  have hgla : gsa.length ≤ 65536 := by have := congrArg List.length hta; simp [toSegs] at this; omega
  clear hta hSA
  go_wp2_with fail
  refine (pp_yes F b _ (by omega) hE1' h12 h10 HPB.out sb mb HB.out).mono ?_
  rintro e w2 ⟨bb, gsb, rfl, hSB, htb, hbb, hb2⟩
  have hE2 := hE1'.below hb2 hE1'.size
  have hE2' := hE2.below ((Below.refl _ w2).alloc (Nat.le_refl _) (.cells #[.string b, .slice (some ⟨bb, 0, none⟩) gsb.length gsb.length, .int .i64 mb] 25)) hE2.size
  have hRA2 := (hRA.below hb2 hRA.lt).alloc (.cells #[.string b, .slice (some ⟨bb, 0, none⟩) gsb.length gsb.length, .int .i64 mb] 25)
  have hSA2 := (hSA1.below hb2 hSA1.lt).alloc (.cells #[.string b, .slice (some ⟨bb, 0, none⟩) gsb.length gsb.length, .int .i64 mb] 25)
  have hRB := Row.new w2 [.string b, .slice (some ⟨bb, 0, none⟩) gsb.length gsb.length, .int .i64 mb] 25
  have hSB2 := hSB.alloc (.cells #[.string b, .slice (some ⟨bb, 0, none⟩) gsb.length gsb.length, .int .i64 mb] 25)
  have HTB : Hid _ := htb
  have hglb : gsb.length ≤ 65536 := by have := congrArg List.length htb; simp [toSegs] at this; omega
  clear htb hSB hRA hSA1
  go_wp2_with fail
  refine (pp_yes F (a ++ b) _ (by simp; omega) hE2' (by simp; omega) hjn HPJ.out (sa ++ sb) (-1) (by rw [app_data]; exact HJ.out)).mono ?_
  rintro e w3 ⟨bj, gsj, rfl, hSJ, htj, hbj, hb3⟩
  have hbx := hb1.trans ((((Below.refl _ w1).alloc (Nat.le_refl _) _).trans (hb2.mono (by simp))).mono hb1.size)
  have hby := hbx.trans ((((Below.refl _ w2).alloc (Nat.le_refl _) _).trans (hb3.mono (by simp))).mono hbx.size)
  have hgj : gsj = gsa ++ gsb := by
    apply toSegs_inj
    rw [htj, ← HTA.out, ← HTB.out]
    simp [toSegs]
  have hgl := congrArg List.length hgj
  rw [List.length_append] at hgl
  have hgl1 : gsj.length ≤ gsa.length + gsb.length := by omega
  have hgl2 : gsa.length + gsb.length ≤ gsj.length := by omega
  have HGJ : Hid _ := hgj
  clear htj hgl hgj hbj
  have hRA3 := (hRA2.below hb3 hRA2.lt).alloc (.cells #[.string (a ++ b), .slice (some ⟨bj, 0, none⟩) gsj.length gsj.length, .int .i64 (-1)] 25)
  have hSA3 := (hSA2.below hb3 hSA2.lt).alloc (.cells #[.string (a ++ b), .slice (some ⟨bj, 0, none⟩) gsj.length gsj.length, .int .i64 (-1)] 25)
  have hRB3 := (hRB.below hb3 hRB.lt).alloc (.cells #[.string (a ++ b), .slice (some ⟨bj, 0, none⟩) gsj.length gsj.length, .int .i64 (-1)] 25)
  have hSB3 := (hSB2.below hb3 hSB2.lt).alloc (.cells #[.string (a ++ b), .slice (some ⟨bj, 0, none⟩) gsj.length gsj.length, .int .i64 (-1)] 25)
  have hRJ3 := Row.new w3 [.string (a ++ b), .slice (some ⟨bj, 0, none⟩) gsj.length gsj.length, .int .i64 (-1)] 25
  have hSJ3 := hSJ.alloc (.cells #[.string (a ++ b), .slice (some ⟨bj, 0, none⟩) gsj.length gsj.length, .int .i64 (-1)] 25)
  have hbz := hby.alloc hby.size (.cells #[.string (a ++ b), .slice (some ⟨bj, 0, none⟩) gsj.length gsj.length, .int .i64 (-1)] 25)
  clear hRA2 hSA2 hRB hSB2 hSJ hE1 hE1' hE2 hE2' hb1 hb2 hb3 hbx hby
  have c0 := hRA3.cell 0 _ rfl
  have c1 := hRA3.cell 1 _ rfl
  have c2 := hRA3.cell 2 _ rfl
  go_wp2_with fail
  clear c0 c1 c2 hbb
  generalize (w3.alloc (.cells #[.string (a ++ b), .slice (some ⟨bj, 0, none⟩) gsj.length gsj.length, .int .i64 (-1)] 25)) = W at hRA3 hSA3 hRB3 hSB3 hRJ3 hSJ3 hbz ⊢
  generalize w1.heap.size = pA at hRA3 ⊢
  generalize w2.heap.size = pB at hRB3 ⊢
  generalize w3.heap.size = pJ at hRJ3 ⊢
  refine (segs_any a ba gsa.length ma gsa W (by omega) hSA3).mono ?_
  rintro e w4 ⟨rfl, hKA, hTA, hb4⟩
  have hRA4 := hRA3.below hb4 hRA3.lt
  have hRB4 := hRB3.below hb4 hRB3.lt
  have hSB4 := hSB3.below hb4 hSB3.lt
  have hRJ4 := hRJ3.below hb4 hRJ3.lt
  have hSJ4 := hSJ3.below hb4 hSJ3.lt
  have hbw := hbz.trans (hb4.mono hbz.size)
  clear hRA3 hSA3 hRB3 hSB3 hRJ3 hSJ3 hbz hb4
  generalize W.heap.size + 1 + 1 = bta at hTA ⊢
  generalize W.heap.size + 1 = bka at hKA ⊢
  have c0 := hRB4.cell 0 _ rfl
  have c1 := hRB4.cell 1 _ rfl
  have c2 := hRB4.cell 2 _ rfl
  go_wp2_with fail
  clear c0 c1 c2
  refine (segs_any b bb gsb.length mb gsb w4 (by omega) hSB4).mono ?_
  rintro e w5 ⟨rfl, hKB, hTB, hb5⟩
  have hbv := hbw.trans (hb5.mono hbw.size)
  have hKA5 := hKA.below hb5 hKA.lt
  have hTA5 := hTA.below hb5 hTA.lt
  have hRA5 := hRA4.below hb5 hRA4.lt
  have hRB5 := hRB4.below hb5 hRB4.lt
  have hRJ5 := hRJ4.below hb5 hRJ4.lt
  have hSJ5 := hSJ4.below hb5 hSJ4.lt
  clear hKA hTA hRA4 hRB4 hSB4 hRJ4 hSJ4 hbw hb5
  generalize w4.heap.size + 1 + 1 = btb at hTB ⊢
  generalize w4.heap.size + 1 = bkb at hKB ⊢
  have c0 := hRJ5.cell 0 _ rfl
  have c1 := hRJ5.cell 1 _ rfl
  have c2 := hRJ5.cell 2 _ rfl
  go_wp2_with fail
  clear c0 c1 c2
  refine (segs_any (a ++ b) bj gsj.length (-1) gsj w5 (by omega) hSJ5).mono ?_
  rintro e w6 ⟨rfl, hKJ, hTJ, hb6⟩
  have hKA6 := hKA5.below hb6 hKA5.lt
  have hTA6 := hTA5.below hb6 hTA5.lt
  have hKB6 := hKB.below hb6 hKB.lt
  have hTB6 := hTB.below hb6 hTB.lt
  have hRA6 := hRA5.below hb6 hRA5.lt
  have hRB6 := hRB5.below hb6 hRB5.lt
  have hRJ6 := hRJ5.below hb6 hRJ5.lt
  have hbu := hbv.trans (hb6.mono hbv.size)
  clear hKA5 hTA5 hKB hTB hRA5 hRB5 hRJ5 hSJ5 hbv hb6
  generalize w5.heap.size + 1 + 1 = btj at hTJ ⊢
  generalize w5.heap.size + 1 = bkj at hKJ ⊢
  go_wp2_with fail
  refine (count_any a w6 (by unfold maxLen; omega)).mono ?_
  rintro e w6 ⟨rfl, rfl⟩
  have hca2 : gsa.length = a.data.toList.count 47 := by rw [← HCA.out, ← HTA.out]; simp [toSegs]
  rw [← hca2]
  clear hca2
  go_wp2_with fail
  refine (count_any b w6 (by unfold maxLen; omega)).mono ?_
  rintro e w6 ⟨rfl, rfl⟩
  have hcb2 : gsb.length = b.data.toList.count 47 := by rw [← HCB.out, ← HTB.out]; simp [toSegs]
  rw [← hcb2]
  clear hcb2
  go_wp2_with fail
  go_loopw [20] (fun i wr => ∃ (k q : Nat), k ≤ gsa.length ∧ i = .int .i64 k ∧ wr = w6.drewN q) (fun i _ => gsa.length - (intOf i).toNat)
  case atStart => exact ⟨0, 0, Nat.zero_le _, rfl, rfl⟩
  case round =>
    obtain ⟨k, q, hk, rfl, rfl⟩ := hrel
    by_cases hlt : k < gsa.length
    · obtain ⟨⟨g1, g2⟩, hg⟩ : ∃ g, gsa[k]? = some g := ⟨gsa[k], List.getElem?_eq_getElem hlt⟩
      have hgjk : gsj[k]? = some (g1, g2) := by rw [HGJ.out, List.getElem?_append_left hlt]; exact hg
      have k1 := hKA6.cell k (.int .i64 g1) (by rw [List.getElem?_map, hg]; rfl)
      have k2 := hTA6.cell k (.string g2) (by rw [List.getElem?_map, hg]; rfl)
      have k3 := hKJ.cell k (.int .i64 g1) (by rw [List.getElem?_map, hgjk]; rfl)
      have k4 := hTJ.cell k (.string g2) (by rw [List.getElem?_map, hgjk]; rfl)
      have l1 : (k : Int) < (gsa.length : Int) := by omega
      have l2 : (k : Int) < (gsj.length : Int) := by omega
      clear hg hgjk
      go_wp2
      go_quiet (fail)
      go_wp2
      go_light
      go_roundw
      case rel => exact ⟨k + 1, q + nq, by omega, by go_num, rfl⟩
      case measure => simp [intOf]; omega
    · have hka : k = gsa.length := by omega
      clear hlt hk
      subst hka
      go_wp2
      go_loopw [21] (fun i wr => ∃ (k q : Nat), k ≤ gsb.length ∧ i = .int .i64 k ∧ wr = w6.drewN q) (fun i _ => gsb.length - (intOf i).toNat)
      case atStart => exact ⟨0, q, Nat.zero_le _, rfl, rfl⟩
      case round =>
        obtain ⟨k, q, hk, rfl, rfl⟩ := hrel
        by_cases hlt : k < gsb.length
        · obtain ⟨⟨g1, g2⟩, hg⟩ : ∃ g, gsb[k]? = some g := ⟨gsb[k], List.getElem?_eq_getElem hlt⟩
          have hgjk : gsj[gsa.length + k]? = some (g1, g2) := by rw [HGJ.out, List.getElem?_append_right (by omega), Nat.add_sub_cancel_left]; exact hg
          have k1 := hKB6.cell k (.int .i64 g1) (by rw [List.getElem?_map, hg]; rfl)
          have k2 := hTB6.cell k (.string g2) (by rw [List.getElem?_map, hg]; rfl)
          have k3 := hKJ.cell (gsa.length + k) (.int .i64 g1) (by rw [List.getElem?_map, hgjk]; rfl)
          have k4 := hTJ.cell (gsa.length + k) (.string g2) (by rw [List.getElem?_map, hgjk]; rfl)
          have l1 : (k : Int) < (gsb.length : Int) := by omega
          have l2 : (gsa.length : Int) + (k : Int) < (gsj.length : Int) := by omega
          clear hg hgjk
          go_wp2
          go_quiet (fail)
          go_wp2
          go_light
          go_roundw
          case rel => exact ⟨k + 1, q + nq, by omega, by go_num, rfl⟩
          case measure => simp [intOf]; omega
        · have hRA7 : Row (w6.drewN q) pA 25 _ := hRA6
          have hRB7 : Row (w6.drewN q) pB 25 _ := hRB6
          have hRJ7 : Row (w6.drewN q) pJ 25 _ := hRJ6
          have hbt : Below w.heap.size w (w6.drewN q) := below_drewN hbu q
          clear hRA6 hRB6 hRJ6 hKA6 hTA6 hKB6 hTB6 hKJ hTJ hbu
          generalize w6.drewN q = w7 at hRA7 hRB7 hRJ7 hbt ⊢
          have c0 := hRJ7.cell 0 _ rfl
          have c1 := hRJ7.cell 1 _ rfl
          have c2 := hRJ7.cell 2 _ rfl
          go_wp2_with fail
          refine (string_any (a ++ b) _ (-1) w7).mono ?_
          rintro e w8 ⟨rfl, hb8⟩
          have hRA8 := hRA7.below hb8 hRA7.lt
          have hRB8 := hRB7.below hb8 hRB7.lt
          have hbs := hbt.trans (hb8.mono hbt.size)
          clear c0 c1 c2 hRA7 hRB7 hRJ7 hbt hb8
          have c0 := hRA8.cell 0 _ rfl
          have c1 := hRA8.cell 1 _ rfl
          have c2 := hRA8.cell 2 _ rfl
          go_wp2_with fail
          refine (string_any a _ ma w8).mono ?_
          rintro e w9 ⟨rfl, hb9⟩
          have hRB9 := hRB8.below hb9 hRB8.lt
          have hbr := hbs.trans (hb9.mono hbs.size)
          clear c0 c1 c2 hRA8 hRB8 hbs hb9
          have c0 := hRB9.cell 0 _ rfl
          have c1 := hRB9.cell 1 _ rfl
          have c2 := hRB9.cell 2 _ rfl
          go_wp2_with fail
          refine (string_any b _ mb w9).mono ?_
          rintro e w10 ⟨rfl, hb10⟩
          have hbq := hbr.trans (hb10.mono hbr.size)
          go_wp2
          go_light
          go_ret
          exact ⟨rfl, hbq⟩

end Go.Proofs.Qxb6616416aFmt
