/-
  The second law.
-/
import Derived.Test.Qxb6616414aDoorW9
import Derived.Test.Qxb6616414aDoorPlain3
namespace Go.Proofs.Qxb6616414aDoor
open Go.RowKit Go.Shelf

theorem flip_size4 (b : ByteArray) : (ByteArray.mk (Pl.flip b.data.toList).toArray).size = b.size := by
  show (Pl.flip b.data.toList).toArray.size = b.data.size
  simp [Pl.flip]

theorem ioc_withName (name : ByteArray) (A : List ByteArray) (m : Nat) : Pl.ioc name.data.toList (lists (put A m name)) = false := by
  unfold lists
  rw [put_map]
  exact Pl.ioc_has _ _ _
theorem ioc_withFlip (name f : ByteArray) (hf : f.data.toList = Pl.flip name.data.toList) (A : List ByteArray) (m : Nat) :
    Pl.ioc name.data.toList (lists (put A m f)) = (!(Pl.flip name.data.toList == name.data.toList) && !(lists A).contains name.data.toList) := by
  unfold lists
  rw [put_map, hf, Pl.ioc_put, List.take_append_drop]
theorem ioc_rev (name : ByteArray) (A : List ByteArray) : Pl.ioc name.data.toList (lists A.reverse) = Pl.ioc name.data.toList (lists A) := by
  have : lists A.reverse = (lists A).reverse := by simp [lists]
  rw [this]
  exact Pl.ioc_reverse _ _

set_option maxHeartbeats 4000000 in
set_option maxRecDepth 100000 in
theorem fn4_any (name : ByteArray) (v : Value) (A : List ByteArray) (i : Int) (w : World) (hE : Env w) (h : ArgS w v A) (hn : name.size ≤ maxLen) :
    Calls Tryd.prog 4 #[.string name, v, .int .i64 i] w fun e w' => e = .returned (.bool true) ∧ Below w.heap.size w w' := by
  obtain ⟨ad, c, rfl, hm⟩ := h.len
  obtain ⟨i9, h9, z9, s9, b9⟩ := info_parts info9
  have hqn := fun (w : World) (a : Option Addr) (n c : Nat) => run_neq_slice_nil_any (P := Tryd.prog) w 22 9 a n c 0 0 Tryd.underlying22
  have hmk := fun (w : World) (n : Nat) (hn : n ≤ 65536) => run_make (P := Tryd.prog) w 22 9 i9 _ Tryd.underlying22 h9 z9 .i64 .i64 n n (by omega) (Int.le_refl _) (by rw [b9]; omega) (by omega)
  go_enter Tryd.func4, Tryd.ntmps4
  go_wp2_with fail
  refine (bytes9_any name _ A i w h hn).mono ?_
  rintro e w ⟨⟨b, rfl, hb⟩, rfl⟩
  cases b with
  | false =>
    go_wp2
    go_ret
    exact ⟨rfl, Below.refl _ _⟩
  | true =>
    obtain ⟨n1, a1, a2⟩ := hb rfl
    clear hb
    by_cases hA : A.length ≤ 65536
    · go_upto_if 35 with fail
      go_cut [1, 7] (fun s1 _ wx => Strs wx s1 A ∧ Below w.heap.size w wx)
      case first =>
        cases ad with
        | none =>
          obtain ⟨hc0, hA0⟩ : c = 0 ∧ A = [] := by
            rcases h with ⟨e, e2⟩ | ⟨_, _, _, e⟩ | ⟨_, _, _, e, _⟩
            · subst e2; cases e; exact ⟨rfl, rfl⟩
            · cases e
            · cases e
          subst hc0
          subst hA0
          go_wp2
          go_meet
          exact ⟨.inl ⟨rfl, rfl⟩, Below.refl _ _⟩
        | some a =>
          have hm9 := hmk w A.length hA
          have hcp := copy_run w a c A h
          go_wp2
          go_meet
          exact ⟨copied_strs w A, copied_below w A⟩
      case rest =>
        obtain ⟨hSA, hb1⟩ := hcut
        obtain ⟨w1, rfl⟩ : ∃ w1, w1 = wc := ⟨_, rfl⟩
        obtain ⟨adA, rfl, hcA⟩ := hSA.len
        have HCA : Hid _ := hcA
        clear hcA h hqn
        by_cases ht0 : name.size + 16 * A.length ≤ 1048576
        · go_wp2
          go_loop [8, 9] (fun z j => ∃ (zz k : Nat), z = .int .i64 zz ∧ zz ≤ 1048576 ∧ j = .int .i64 k ∧ k ≤ A.length) (fun _ j => A.length - (RowKit.intOf j).toNat)
          case atStart => exact ⟨name.size + 16 * A.length, 0, by go_num, ht0, rfl, Nat.zero_le _⟩
          case round =>
            obtain ⟨zz, k, rfl, hzz, rfl, hk⟩ := hrel
            by_cases hlt : k < A.length
            · obtain ⟨x, hx⟩ : ∃ x, A[k]? = some x := ⟨A[k], List.getElem?_eq_getElem hlt⟩
              obtain ⟨g, eg, hc⟩ := HCA.out k x hx
              subst eg
              have x1 := a2 x (List.mem_of_getElem? hx)
              clear hx
              by_cases x2 : zz + x.size ≤ 1048576
              · go_wp2
                go_round
                case rel => exact ⟨zz + x.size, k + 1, by go_num, x2, by go_num, by omega⟩
                case measure => simp [RowKit.intOf]; omega
              · go_wp2
                go_ret
                exact ⟨rfl, hb1⟩
            · have hk' : k = A.length := by omega
              subst hk'
              by_cases hi1 : 0 ≤ i
              · by_cases hi2 : i ≤ A.length
                · obtain ⟨m, rfl⟩ : ∃ m : Nat, i = m := ⟨i.toNat, by omega⟩
                  have hm1 : m ≤ A.length := by omega
                  go_wp2_with fail
                  refine (flip_any name w1 n1).mono ?_
                  rintro e w2 ⟨rfl, hb2⟩
                  obtain ⟨f, hf⟩ : ∃ f, f = ByteArray.mk (Pl.flip name.data.toList).toArray := ⟨_, rfl⟩
                  have hfl : f.size ≤ 1048576 := by rw [hf, flip_size4]; exact n1
                  have hfd : f.data.toList = Pl.flip name.data.toList := by rw [hf]
                  rw [← hf]
                  clear hf
                  have hb02 := hb1.trans (hb2.mono hb1.size)
                  have hSA2 := hSA.below hb2
                  have HC2 : Hid (∀ (j : Nat) x, A[j]? = some x → ∃ g, adA = some ⟨g, 0, none⟩ ∧ w2.cell? ⟨g, j, none⟩ = some (.string x)) := by
                    intro j x hx
                    obtain ⟨g, e1, e2⟩ := HCA.out j x hx
                    exact ⟨g, e1, cell_stays e2 hb2⟩
                  clear HCA hSA
                  have hm2 := fun (w : World) => run_make (P := Tryd.prog) w 22 9 i9 _ Tryd.underlying22 h9 z9 .i64 .i64 ((A.length : Int) + 1) ((A.length : Int) + 1) (by omega) (Int.le_refl _) (by rw [b9]; omega) (by omega)
                  go_wp2
                  clear hm2
                  have hp1 := put_length A m name hm1
                  have hp2 := put_length A m f hm1
                  go_loopw [13] (fun j wr => ∃ k : Nat, j = .int .i64 k ∧ k ≤ m ∧ Row wr w2.heap.size 9 (fill Value.string (.string ⟨#[]⟩) (put A m name) k) ∧ Row wr (w2.heap.size + 1) 9 (fill Value.string (.string ⟨#[]⟩) (put A m f) k) ∧ Below w2.heap.size w2 wr) (fun j _ => m - (RowKit.intOf j).toNat)
                  case atStart =>
                    have r1 := Row.new w2 (List.replicate (A.length + 1) (.string ⟨#[]⟩)) 9
                    rw [← made_list] at r1
                    have r2 := Row.new (w2.alloc (.cells (madeCells #[.string ⟨#[]⟩] (A.length + 1)) 9)) (List.replicate (A.length + 1) (.string ⟨#[]⟩)) 9
                    rw [← made_list] at r2
                    have hsz : (w2.alloc (.cells (madeCells #[.string ⟨#[]⟩] (A.length + 1)) 9)).heap.size = w2.heap.size + 1 := by simp
                    rw [hsz] at r2
                    refine ⟨0, rfl, Nat.zero_le _, ?_, ?_, ((Below.refl _ w2).alloc (Nat.le_refl _) _).alloc (by omega) _⟩
                    · rw [fill_zero, hp1]
                      exact r1.alloc _
                    · rw [fill_zero, hp2]
                      exact r2
                  case round =>
                    obtain ⟨k, rfl, hk, hR1, hR2, hBl⟩ := hrel
                    by_cases hlt : k < m
                    · obtain ⟨x, hx⟩ : ∃ x, A[k]? = some x := ⟨A[k], List.getElem?_eq_getElem (by omega)⟩
                      have hx1 : (put A m name)[k]? = some x := by rw [put_low A m name hm1 k hlt]; exact hx
                      have hx2 : (put A m f)[k]? = some x := by rw [put_low A m f hm1 k hlt]; exact hx
                      obtain ⟨g, eg, hc⟩ := HC2.out k x hx
                      subst eg
                      have hglt := World.block_lt_of_cell? w2 _ hc
                      have hB1 := hBl.setCell (p := ⟨w2.heap.size, k, none⟩) (Nat.le_refl _) (.string x)
                      have hc2 := cell_stays hc hBl
                      have hc3 := cell_stays hc hB1
                      have cK1 := hR1.cell k _ (fill_at Value.string _ (put A m name) k (by omega))
                      have fK1 := hR1.free k
                      have hR2' := hR2.other (a := ⟨w2.heap.size, k, none⟩) (by simp) (.string x)
                      have cK2 := hR2'.cell k _ (fill_at Value.string _ (put A m f) k (by omega))
                      have fK2 := hR2'.free k
                      have hR1' := (hR1.set k (.string x)).other (a := ⟨w2.heap.size + 1, k, none⟩) (by simp) (.string x)
                      have hR2'' := hR2'.set k (.string x)
                      have hB2 := hB1.setCell (p := ⟨w2.heap.size + 1, k, none⟩) (by simp) (.string x)
                      rw [fill_set Value.string (.string ⟨#[]⟩) (put A m name) k x hx1] at hR1'
                      rw [fill_set Value.string (.string ⟨#[]⟩) (put A m f) k x hx2] at hR2''
                      have HR1 : Hid _ := hR1'
                      have HR2 : Hid _ := hR2''
                      have HB : Hid _ := hB2
                      clear hx hx1 hx2 hc hR1' hR2'' hB2 hR2' hB1
                      go_wp2
                      go_roundw
                      case rel => exact ⟨k + 1, by go_num, by omega, HR1.out, HR2.out, HB.out⟩
                      case measure => simp [RowKit.intOf]; omega
                    · have hk2 : k = m := by omega
                      subst hk2
                      have hB1 := hBl.setCell (p := ⟨w2.heap.size, k, none⟩) (Nat.le_refl _) (.string name)
                      have cK1 := hR1.cell k _ (fill_at Value.string _ (put A k name) k (by omega))
                      have fK1 := hR1.free k
                      have hR2' := hR2.other (a := ⟨w2.heap.size, k, none⟩) (by simp) (.string name)
                      have cK2 := hR2'.cell k _ (fill_at Value.string _ (put A k f) k (by omega))
                      have fK2 := hR2'.free k
                      have hR1' := (hR1.set k (.string name)).other (a := ⟨w2.heap.size + 1, k, none⟩) (by simp) (.string f)
                      have hR2'' := hR2'.set k (.string f)
                      have hB2 := hB1.setCell (p := ⟨w2.heap.size + 1, k, none⟩) (by simp) (.string f)
                      rw [fill_set Value.string (.string ⟨#[]⟩) (put A k name) k name (put_at A k name hm1)] at hR1'
                      rw [fill_set Value.string (.string ⟨#[]⟩) (put A k f) k f (put_at A k f hm1)] at hR2''
                      have HR1 : Hid _ := hR1'
                      have HR2 : Hid _ := hR2''
                      have HB : Hid _ := hB2
                      clear hR1' hR2'' hB2 hR2' hB1
                      go_wp2
                      go_loopw [14] (fun j wr => ∃ q : Nat, j = .int .i64 q ∧ k ≤ q ∧ q ≤ A.length ∧ Row wr w2.heap.size 9 (fill Value.string (.string ⟨#[]⟩) (put A k name) (q + 1)) ∧ Row wr (w2.heap.size + 1) 9 (fill Value.string (.string ⟨#[]⟩) (put A k f) (q + 1)) ∧ Below w2.heap.size w2 wr) (fun j _ => A.length - (RowKit.intOf j).toNat)
                      case atStart => exact ⟨k, rfl, Nat.le_refl _, hm1, HR1.out, HR2.out, HB.out⟩
                      case round =>
                        clear HR1 HR2 HB hR1 hR2 hBl cK1 fK1 cK2 fK2
                        obtain ⟨q, rfl, hkq, hqA, hR1, hR2, hBl⟩ := hrel
                        by_cases hlt : q < A.length
                        · obtain ⟨x, hx⟩ : ∃ x, A[q]? = some x := ⟨A[q], List.getElem?_eq_getElem (by omega)⟩
                          have hx1 : (put A k name)[q + 1]? = some x := by rw [put_high A k name hm1 q hkq]; exact hx
                          have hx2 : (put A k f)[q + 1]? = some x := by rw [put_high A k f hm1 q hkq]; exact hx
                          obtain ⟨g, eg, hc⟩ := HC2.out q x hx
                          subst eg
                          have hglt := World.block_lt_of_cell? w2 _ hc
                          have hB1 := hBl.setCell (p := ⟨w2.heap.size, q + 1, none⟩) (Nat.le_refl _) (.string x)
                          have hc2 := cell_stays hc hBl
                          have hc3 := cell_stays hc hB1
                          have cK1 := hR1.cell (q + 1) _ (fill_at Value.string _ (put A k name) (q + 1) (by omega))
                          have fK1 := hR1.free (q + 1)
                          have hR2' := hR2.other (a := ⟨w2.heap.size, q + 1, none⟩) (by simp) (.string x)
                          have cK2 := hR2'.cell (q + 1) _ (fill_at Value.string _ (put A k f) (q + 1) (by omega))
                          have fK2 := hR2'.free (q + 1)
                          have hR1' := (hR1.set (q + 1) (.string x)).other (a := ⟨w2.heap.size + 1, q + 1, none⟩) (by simp) (.string x)
                          have hR2'' := hR2'.set (q + 1) (.string x)
                          have hB2 := hB1.setCell (p := ⟨w2.heap.size + 1, q + 1, none⟩) (by simp) (.string x)
                          rw [fill_set Value.string (.string ⟨#[]⟩) (put A k name) (q + 1) x hx1] at hR1'
                          rw [fill_set Value.string (.string ⟨#[]⟩) (put A k f) (q + 1) x hx2] at hR2''
                          have HR1 : Hid _ := hR1'
                          have HR2 : Hid _ := hR2''
                          have HB : Hid _ := hB2
                          clear hx hx1 hx2 hc hR1' hR2'' hB2 hR2' hB1
                          go_wp2
                          go_roundw
                          case rel => exact ⟨q + 1, by go_num, by omega, by omega, HR1.out, HR2.out, HB.out⟩
                          case measure => simp [RowKit.intOf]; omega
                        · have hq2 : q = A.length := by omega
                          subst hq2
                          rw [← hp1, fill_all] at hR1
                          rw [← hp2, fill_all] at hR2
                          obtain ⟨w3, rfl⟩ : ∃ w3, w3 = wr := ⟨_, rfl⟩
                          have hm3 := hmk w3 A.length hA
                          go_wp2
                          clear hm3
                          go_loopw [16] (fun j wr => ∃ q : Nat, j = .int .i64 q ∧ q ≤ A.length ∧ Row wr w3.heap.size 9 (fillR Value.string (.string ⟨#[]⟩) A q) ∧ Below w3.heap.size w3 wr) (fun j _ => A.length - (RowKit.intOf j).toNat)
                          case atStart =>
                            have r1 := Row.new w3 (List.replicate A.length (.string ⟨#[]⟩)) 9
                            rw [← made_list] at r1
                            exact ⟨0, rfl, Nat.zero_le _, by rw [fillR_zero]; exact r1, (Below.refl _ w3).alloc (Nat.le_refl _) _⟩
                          case round =>
                            obtain ⟨q, rfl, hqA2, hR3, hBl3⟩ := hrel
                            by_cases hlt3 : q < A.length
                            · obtain ⟨x, hx⟩ : ∃ x, A[q]? = some x := ⟨A[q], List.getElem?_eq_getElem (by omega)⟩
                              obtain ⟨g, eg, hc⟩ := HC2.out q x hx
                              subst eg
                              have hc2 := cell_stays (cell_stays hc hBl) hBl3
                              have hi0 : ((A.length : Int) - 1 - q).toNat = A.length - 1 - q := by omega
                              have cK := hR3.cell (A.length - 1 - q) _ (fillR_at Value.string _ A q hlt3)
                              have fK := hR3.free (A.length - 1 - q)
                              have HS : Hid _ := fillR_set Value.string (.string ⟨#[]⟩) A q x hx
                              clear hx hc
                              go_wp2
                              go_roundw
                              case rel => exact ⟨q + 1, by go_num, by omega, by rw [← HS.out]; exact hR3.set (A.length - 1 - q) _, hBl3.setCell (Nat.le_refl _) _⟩
                              case measure => simp [RowKit.intOf]; omega
                            · have hq3 : q = A.length := by omega
                              subst hq3
                              rw [fillR_all] at hR3
                              have hb03 := hb02.trans (hBl.mono hb02.size)
                              have hb0r := hb03.trans (hBl3.mono hb03.size)
                              have hSA3 := (hSA2.below hBl).below hBl3
                              have hSN : Strs wr (.slice (some ⟨w2.heap.size, 0, none⟩) (A.length + 1) (A.length + 1)) (put A k name) := Strs.below (.inr ⟨_, by rw [hp1], hR1⟩) hBl3
                              have hSF : Strs wr (.slice (some ⟨w2.heap.size + 1, 0, none⟩) (A.length + 1) (A.length + 1)) (put A k f) := Strs.below (.inr ⟨_, by rw [hp2], hR2⟩) hBl3
                              have hSR : Strs wr (.slice (some ⟨w3.heap.size, 0, none⟩) A.length A.length) A.reverse := .inr ⟨_, by rw [List.length_reverse], hR3⟩
                              have zN : ∀ x ∈ put A k name, x.size ≤ 1048576 := fun x hx => (put_mem A k name x hx).elim (fun e => e ▸ n1) (a2 x)
                              have zF : ∀ x ∈ put A k f, x.size ≤ 1048576 := fun x hx => (put_mem A k f x hx).elim (fun e => e ▸ hfl) (a2 x)
                              have zR : ∀ x ∈ A.reverse, x.size ≤ 1048576 := fun x hx => a2 x (List.mem_reverse.1 hx)
                              have HN : Hid _ := ioc_withName name A k
                              have HF : Hid _ := ioc_withFlip name f hfd A k
                              have HV : Hid _ := ioc_rev name A
                              clear hR1 hR2 hR3 HC2 hSA2 hBl hBl3 hmk
                              go_wp2_with fail
                              refine (zz_any _ A name n1 a1 a2 wr (hE.below hb0r) hSA3).mono ?_
                              rintro e w4 ⟨rfl, hb4⟩
                              have hb04 := hb0r.trans (hb4.mono hb0r.size)
                              have hSA4 := hSA3.below hb4
                              have hSN4 := hSN.below hb4
                              have hSF4 := hSF.below hb4
                              have hSR4 := hSR.below hb4
                              rw [← HV.out]
                              obtain ⟨gA, hgA⟩ : ∃ b, Pl.ioc name.data.toList (lists A.reverse) = b := ⟨_, rfl⟩
                              rw [hgA]
                              have HG : Hid _ := hgA
                              clear hSA3 hSN hSF hSR hgA HV
                              go_wp2_with fail
                              refine (zz_any _ (put A k name) name n1 (by omega) zN w4 (hE.below hb04) hSN4).mono ?_
                              rintro e w5 ⟨rfl, hb5⟩
                              have hb05 := hb04.trans (hb5.mono hb04.size)
                              have hSA5 := hSA4.below hb5
                              have hSF5 := hSF4.below hb5
                              have hSR5 := hSR4.below hb5
                              rw [HN.out]
                              clear hSA4 hSN4 hSF4 hSR4
                              go_wp2_with fail
                              refine (zz_any _ (put A k f) name n1 (by omega) zF w5 (hE.below hb05) hSF5).mono ?_
                              rintro e w6 ⟨rfl, hb6⟩
                              have hb06 := hb05.trans (hb6.mono hb05.size)
                              have hSA6 := hSA5.below hb6
                              have hSR6 := hSR5.below hb6
                              rw [HF.out]
                              clear hSA5 hSF5 hSR5
                              obtain ⟨cA, hcA⟩ : ∃ b, (lists A).contains name.data.toList = b := ⟨_, rfl⟩
                              rw [hcA]
                              have HC : Hid _ := hcA
                              clear hcA
                              by_cases hfn : Pl.flip name.data.toList = name.data.toList
                              · have hff : f = name := bytes_ext (by rw [hfd]; exact hfn)
                                subst hff
                                have e1 : (!(Pl.flip f.data.toList == f.data.toList) && !cA) = false := by rw [hfn]; simp
                                rw [e1]
                                clear HF e1
                                go_wp2_with fail
                                refine (zz_any _ A.reverse f n1 (by rw [List.length_reverse]; exact a1) zR w6 (hE.below hb06) hSR6).mono ?_
                                rintro e w7 ⟨rfl, hb7⟩
                                have hb07 := hb06.trans (hb7.mono hb06.size)
                                rw [HG.out]
                                go_wp2
                                go_ret
                                exact ⟨by simp, hb07⟩
                              · have hff : f ≠ name := fun e => hfn (by rw [← hfd, e])
                                have hsn := str_ne hff
                                have e1 : (!(Pl.flip name.data.toList == name.data.toList) && !cA) = !cA := by simp [hfn]
                                rw [e1]
                                clear HF e1 hfd hfn hff
                                go_wp2_with fail
                                refine (zz_any _ A.reverse name n1 (by rw [List.length_reverse]; exact a1) zR w6 (hE.below hb06) hSR6).mono ?_
                                rintro e w7 ⟨rfl, hb7⟩
                                have hb07 := hb06.trans (hb7.mono hb06.size)
                                have hSA7 := hSA6.below hb7
                                rw [HG.out]
                                go_wp2_with fail
                                refine (has_any _ A name w7 hSA7 a1).mono ?_
                                rintro e w8 ⟨rfl, rfl⟩
                                rw [HC.out]
                                go_wp2
                                go_ret
                                exact ⟨by simp, hb07⟩
                · go_wp2
                  go_ret
                  exact ⟨rfl, hb1⟩
              · go_wp2
                go_ret
                exact ⟨rfl, hb1⟩
        · go_wp2
          go_ret
          exact ⟨rfl, hb1⟩
    · go_wp2
      go_ret
      exact ⟨rfl, Below.refl _ _⟩

end Go.Proofs.Qxb6616414aDoor
