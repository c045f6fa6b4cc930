/-
  The law: the way on which the operators clash.
-/
import Derived.Test.Qxb6616416aFmtW9
namespace Go.Proofs.Qxb6616416aFmt
open Go.RowKit Go.Extern.Stop Go.Stop Go.Extern

theorem hasOp_segs (b c : Nat) (gs : List (Int × ByteArray)) (w : World) (hl : gs.length ≤ maxLen) (hR : Row w b 3 (gs.map kindV)) :
    Calls Tryf.prog 7 #[.slice (some ⟨b, 0, none⟩) gs.length c] w fun e w' => e = .returned (.bool (Pl.hasOp (toSegs gs))) ∧ w' = w := by
  have h := hasOp_any b c (gs.map (·.1)) w (by simpa using hl) (fun j hj => by
    have hj' : j < gs.length := by simpa using hj
    have := hR.cell j (kindV gs[j]) (by rw [List.getElem?_map, List.getElem?_eq_getElem hj']; rfl)
    rw [this]
    simp [kindV, List.getD, List.getElem?_eq_getElem hj'])
  rw [List.length_map] at h
  have e : (gs.map (·.1)).any opInt = Pl.hasOp (toSegs gs) := by
    unfold Pl.hasOp toSegs
    rw [List.any_map, List.any_map]
    rfl
  rw [e] at h
  exact h

set_option maxRecDepth 100000 in
set_option maxHeartbeats 2000000 in
theorem fn_clash (F : Interp) (a b : ByteArray) (w : World) (hE : Env F w) (fit : Fit a b) (ra rb : List Pl.Seg × Int) (ha : parsed a.data.toList = some ra) (hb : parsed b.data.toList = some rb)
    (hla : ra.1.length ≤ 65536) (hlb : rb.1.length ≤ 65536) (hm : 0 ≤ ra.2) (ho : Pl.hasOp rb.1 = true) (hj : parsed (a.data.toList ++ b.data.toList) = none) :
    Calls Tryf.prog 3 #[.string a, .string b] w fun e w' => e = .returned (.bool true) ∧ Below w.heap.size w w' := by
  obtain ⟨h1, h2, h3, h4, h5, h6, h7, h8, h9, h10⟩ := fit
  have h11 : 0 < a.size := by omega
  have h12 : 0 < b.size := by omega
  have d2 : decide ((a.size : Int) < 2) = false := decide_eq_false (by omega)
  have hpa := hp_of h11 h5
  have hpb := hp_of h12 h9
  have HPJ : Hid _ := app_hp (b := b) hpa
  have hjn := app_ne (a := a) (b := b) h4 h8
  have HPA : Hid _ := hpa
  have HPB : Hid _ := hpb
  have HJ : Hid _ := hj
  obtain ⟨sa, ma⟩ := ra
  obtain ⟨sb, mb⟩ := rb
  have HA : Hid _ := ha
  have HB : Hid _ := hb
  have HO : Hid _ := ho
  simp only at hm hla hlb
  clear hpa hpb hj ha hb ho
  go_enter Tryf.func3, Tryf.ntmps3
  go_wp2_with fail
  refine (bytes_any a b w (by unfold maxLen; omega) (by unfold maxLen; omega)).mono ?_
  rintro e w ⟨rfl, rfl⟩
  rw [decide_eq_true h1]
  go_wp2_with fail
  refine (pp_yes F a w (by omega) hE h11 h7 HPA.out sa ma HA.out).mono ?_
  rintro e w1 ⟨ba, gsa, rfl, hSA, hta, hba, hb1⟩
  have hE1 := hE.below hb1 hE.size
  have hE1' := hE1.below ((Below.refl _ w1).alloc (Nat.le_refl _) (.cells #[.string a, .slice (some ⟨ba, 0, none⟩) gsa.length gsa.length, .int .i64 ma] 25)) hE1.size
  have hRA := Row.new w1 [.string a, .slice (some ⟨ba, 0, none⟩) gsa.length gsa.length, .int .i64 ma] 25
  have hSA1 := hSA.alloc (.cells #[.string a, .slice (some ⟨ba, 0, none⟩) gsa.length gsa.length, .int .i64 ma] 25)
  have HTA : Hid _ := hta
  have hgla : gsa.length ≤ 65536 := by have := congrArg List.length hta; simp [toSegs] at this; omega
  clear hta hSA
  go_wp2_with fail
  refine (pp_yes F b _ (by omega) hE1' h12 h10 HPB.out sb mb HB.out).mono ?_
  rintro e w2 ⟨bb, gsb, rfl, hSB, htb, hbb, hb2⟩
  have hE2 := hE1'.below hb2 hE1'.size
  have hE2' := hE2.below ((Below.refl _ w2).alloc (Nat.le_refl _) (.cells #[.string b, .slice (some ⟨bb, 0, none⟩) gsb.length gsb.length, .int .i64 mb] 25)) hE2.size
  have hRA2 := (hRA.below hb2 hRA.lt).alloc (.cells #[.string b, .slice (some ⟨bb, 0, none⟩) gsb.length gsb.length, .int .i64 mb] 25)
  have hSA2 := (hSA1.below hb2 hSA1.lt).alloc (.cells #[.string b, .slice (some ⟨bb, 0, none⟩) gsb.length gsb.length, .int .i64 mb] 25)
  have hRB := Row.new w2 [.string b, .slice (some ⟨bb, 0, none⟩) gsb.length gsb.length, .int .i64 mb] 25
  have hSB2 := hSB.alloc (.cells #[.string b, .slice (some ⟨bb, 0, none⟩) gsb.length gsb.length, .int .i64 mb] 25)
  have HTB : Hid _ := htb
  have hglb : gsb.length ≤ 65536 := by have := congrArg List.length htb; simp [toSegs] at this; omega
  clear htb hSB hRA hSA1
  go_wp2_with fail
  refine (pp_no F (a ++ b) _ (by simp; omega) hE2' (by simp; omega) hjn HPJ.out (by rw [app_data]; exact HJ.out)).mono ?_
  rintro e w3 ⟨⟨adj, rfl⟩, hb3⟩
  have hbx := hb1.trans ((((Below.refl _ w1).alloc (Nat.le_refl _) _).trans (hb2.mono (by simp))).mono hb1.size)
  have hby := hbx.trans ((((Below.refl _ w2).alloc (Nat.le_refl _) _).trans (hb3.mono (by simp))).mono hbx.size)
  have hRA3 := (hRA2.below hb3 hRA2.lt).alloc (.cells #[.string ⟨#[]⟩, .slice none 0 0, .int .i64 0] 25)
  have hSA3 := (hSA2.below hb3 hSA2.lt).alloc (.cells #[.string ⟨#[]⟩, .slice none 0 0, .int .i64 0] 25)
  have hRB3 := (hRB.below hb3 hRB.lt).alloc (.cells #[.string ⟨#[]⟩, .slice none 0 0, .int .i64 0] 25)
  have hSB3 := (hSB2.below hb3 hSB2.lt).alloc (.cells #[.string ⟨#[]⟩, .slice none 0 0, .int .i64 0] 25)
  have hbz := hby.alloc hby.size (.cells #[.string ⟨#[]⟩, .slice none 0 0, .int .i64 0] 25)
  clear hRA2 hSA2 hRB hSB2 hE1 hE1' hE2 hE2' hb1 hb2 hb3 hbx hby
  have c0 := hRA3.cell 0 _ rfl
  have c1 := hRA3.cell 1 _ rfl
  have c2 := hRA3.cell 2 _ rfl
  go_wp2_with fail
  clear c0 c1 c2 hbb
  generalize (w3.alloc (.cells #[.string ⟨#[]⟩, .slice none 0 0, .int .i64 0] 25)) = W at hRA3 hSA3 hRB3 hSB3 hbz ⊢
  generalize w1.heap.size = pA at hRA3 ⊢
  generalize w2.heap.size = pB at hRB3 ⊢
  refine (segs_any a ba gsa.length ma gsa W (by omega) hSA3).mono ?_
  rintro e w4 ⟨rfl, hKA, hTA, hb4⟩
  have hRB4 := hRB3.below hb4 hRB3.lt
  have hSB4 := hSB3.below hb4 hSB3.lt
  have hbw := hbz.trans (hb4.mono hbz.size)
  clear hRA3 hSA3 hRB3 hSB3 hbz hb4 hKA hTA
  have c0 := hRB4.cell 0 _ rfl
  have c1 := hRB4.cell 1 _ rfl
  have c2 := hRB4.cell 2 _ rfl
  go_wp2_with fail
  refine (segs_any b bb gsb.length mb gsb w4 (by omega) hSB4).mono ?_
  rintro e w5 ⟨rfl, hKB, hTB, hb5⟩
  have hbv := hbw.trans (hb5.mono hbw.size)
  go_wp2_with fail
  refine (hasOp_segs _ _ gsb w5 (by unfold maxLen; omega) hKB).mono ?_
  rintro e w5 ⟨rfl, rfl⟩
  rw [HTB.out, HO.out]
  go_wp2
  go_light
  go_ret
  exact ⟨rfl, hbv⟩

end Go.Proofs.Qxb6616416aFmt
