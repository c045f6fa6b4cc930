/-
  The first law.
-/
import Derived.Test.Qxb6616414aDoorW9
namespace Go.Proofs.Qxb6616414aDoor
open Go.RowKit Go.Shelf

theorem flip_size (b : ByteArray) : (ByteArray.mk (Pl.flip b.data.toList).toArray).size = b.size := by
  show (Pl.flip b.data.toList).toArray.size = b.data.size
  simp [Pl.flip]

set_option maxHeartbeats 4000000 in
set_option maxRecDepth 100000 in
theorem fn3_any (name : ByteArray) (v u : Value) (A B : List ByteArray) (w : World) (hE : Env w) (h : ArgS w v A) (h' : ArgS w u B) (hn : name.size ≤ maxLen) :
    Calls Tryd.prog 3 #[.string name, v, u] w fun e w' => e = .returned (.bool true) ∧ Below w.heap.size w w' := by
  obtain ⟨ad, c, rfl, hm⟩ := h.len
  obtain ⟨ad', c', rfl, hm'⟩ := h'.len
  obtain ⟨i9, h9, z9, s9, b9⟩ := info_parts info9
  have hqn := fun (w : World) (a : Option Addr) (n c : Nat) => run_neq_slice_nil_any (P := Tryd.prog) w 22 9 a n c 0 0 Tryd.underlying22
  have hmk := fun (w : World) (n : Nat) (hn : n ≤ 65536) => run_make (P := Tryd.prog) w 22 9 i9 _ Tryd.underlying22 h9 z9 .i64 .i64 n n (by omega) (Int.le_refl _) (by rw [b9]; omega) (by omega)
  go_enter Tryd.func3, Tryd.ntmps3
  go_wp2_with fail
  refine (bytes5_any name _ _ A B w h h' hn).mono ?_
  rintro e w ⟨⟨b, rfl, hb⟩, rfl⟩
  cases b with
  | false =>
    go_wp2
    go_ret
    exact ⟨rfl, Below.refl _ _⟩
  | true =>
    obtain ⟨n1, ⟨a1, a2⟩, b1, b2⟩ := hb rfl
    clear hb
    by_cases hA : A.length ≤ 65536
    · by_cases hB : B.length ≤ 65536
      · go_upto_if 40 with fail
        go_cut [1, 7] (fun s1 _ wx => Strs wx s1 A ∧ Below w.heap.size w wx)
        case first =>
          cases ad with
          | none =>
            obtain ⟨hc0, hA0⟩ : c = 0 ∧ A = [] := by
              rcases h with ⟨e, e2⟩ | ⟨_, _, _, e⟩ | ⟨_, _, _, e, _⟩
              · subst e2; cases e; exact ⟨rfl, rfl⟩
              · cases e
              · cases e
            subst hc0
            subst hA0
            go_wp2
            go_meet
            exact ⟨.inl ⟨rfl, rfl⟩, Below.refl _ _⟩
          | some a =>
            have hm9 := hmk w A.length hA
            have hcp := copy_run w a c A h
            go_wp2
            go_meet
            exact ⟨copied_strs w A, copied_below w A⟩
        case rest =>
          obtain ⟨hSA, hb1⟩ := hcut
          obtain ⟨w1, rfl⟩ : ∃ w1, w1 = wc := ⟨_, rfl⟩
          have h'1 : ArgS w1 (.slice ad' B.length c') B := by
            rcases h' with e | e | ⟨b, off, c2, e, q1, q2, q3⟩
            · exact .inl e
            · exact .inr (.inl e)
            · exact .inr (.inr ⟨b, off, c2, e, q1, q2, fun j x hx => cell_stays (q3 j x hx) hb1⟩)
          obtain ⟨adA, rfl, hcA⟩ := hSA.len
          have HCA : Hid _ := hcA
          clear hcA h h'
          go_upto_if 49 with fail
          go_cut [2, 8] (fun s2 _ wx => Strs wx s2 B ∧ Below w1.heap.size w1 wx)
          case first =>
            cases ad' with
            | none =>
              obtain ⟨hc0, hB0⟩ : c' = 0 ∧ B = [] := by
                rcases h'1 with ⟨e, e2⟩ | ⟨_, _, _, e⟩ | ⟨_, _, _, e, _⟩
                · subst e2; cases e; exact ⟨rfl, rfl⟩
                · cases e
                · cases e
              subst hc0
              subst hB0
              go_wp2
              go_meet
              exact ⟨.inl ⟨rfl, rfl⟩, Below.refl _ _⟩
            | some a =>
              have hm9 := hmk w1 B.length hB
              have hcp := copy_run w1 a c' B h'1
              go_wp2
              go_meet
              exact ⟨copied_strs w1 B, copied_below w1 B⟩
          case rest =>
            obtain ⟨hSB, hb2⟩ := hcut
            obtain ⟨w2, rfl⟩ : ∃ w2, w2 = wc := ⟨_, rfl⟩
            have hSA2 := hSA.below hb2
            obtain ⟨adA2, eA, hcA2⟩ := hSA2.len
            cases eA
            obtain ⟨adB, rfl, hcB⟩ := hSB.len
            have hb02 := hb1.trans (hb2.mono hb1.size)
            have HCA2 : Hid _ := hcA2
            have HCB : Hid _ := hcB
            clear hcA2 hcB HCA hmk hqn
            by_cases ht0 : name.size + 16 * A.length + 16 * B.length ≤ 1048576
            · go_wp2
              go_loop [9, 10] (fun z j => ∃ (zz k : Nat), z = .int .i64 zz ∧ zz ≤ 1048576 ∧ j = .int .i64 k ∧ k ≤ A.length) (fun _ j => A.length - (RowKit.intOf j).toNat)
              case atStart => exact ⟨name.size + 16 * A.length + 16 * B.length, 0, by go_num, ht0, rfl, Nat.zero_le _⟩
              case round =>
                obtain ⟨zz, k, rfl, hzz, rfl, hk⟩ := hrel
                by_cases hlt : k < A.length
                · obtain ⟨x, hx⟩ : ∃ x, A[k]? = some x := ⟨A[k], List.getElem?_eq_getElem hlt⟩
                  obtain ⟨g, eg, hc⟩ := HCA2.out k x hx
                  subst eg
                  have x1 := a2 x (List.mem_of_getElem? hx)
                  clear hx
                  by_cases x2 : zz + x.size ≤ 1048576
                  · go_wp2
                    go_round
                    case rel => exact ⟨zz + x.size, k + 1, by go_num, x2, by go_num, by omega⟩
                    case measure => simp [RowKit.intOf]; omega
                  · go_wp2
                    go_ret
                    exact ⟨rfl, hb02⟩
                · have hk' : k = A.length := by omega
                  subst hk'
                  go_wp2
                  go_loop [9, 11] (fun z j => ∃ (zz k : Nat), z = .int .i64 zz ∧ zz ≤ 1048576 ∧ j = .int .i64 k ∧ k ≤ B.length) (fun _ j => B.length - (RowKit.intOf j).toNat)
                  case atStart => exact ⟨zz, 0, rfl, hzz, rfl, Nat.zero_le _⟩
                  case round =>
                    obtain ⟨zz', k', rfl, hzz', rfl, hk'⟩ := hrel
                    by_cases hlt' : k' < B.length
                    · obtain ⟨x, hx⟩ : ∃ x, B[k']? = some x := ⟨B[k'], List.getElem?_eq_getElem hlt'⟩
                      obtain ⟨g, eg, hc⟩ := HCB.out k' x hx
                      subst eg
                      have x1 := b2 x (List.mem_of_getElem? hx)
                      clear hx
                      by_cases x2 : zz' + x.size ≤ 1048576
                      · go_wp2
                        go_round
                        case rel => exact ⟨zz' + x.size, k' + 1, by go_num, x2, by go_num, by omega⟩
                        case measure => simp [RowKit.intOf]; omega
                      · go_wp2
                        go_ret
                        exact ⟨rfl, hb02⟩
                    · have hk2 : k' = B.length := by omega
                      subst hk2
                      have hm2 := run_make (P := Tryd.prog) w2 22 9 i9 _ Tryd.underlying22 h9 z9 .i64 .i64 ((A.length : Int) + B.length) ((A.length : Int) + B.length) (by omega) (Int.le_refl _) (by rw [b9]; omega) (by omega)
                      go_wp2
                      clear hm2
                      have hab : (A ++ B).length = A.length + B.length := List.length_append
                      go_loopw [13] (fun j wr => ∃ k : Nat, j = .int .i64 k ∧ k ≤ A.length ∧ Row wr w2.heap.size 9 (fill Value.string (.string ⟨#[]⟩) (A ++ B) k) ∧ Below w2.heap.size w2 wr) (fun j _ => A.length - (RowKit.intOf j).toNat)
                      case atStart =>
                        refine ⟨0, rfl, Nat.zero_le _, ?_, (Below.refl _ w2).alloc (Nat.le_refl _) _⟩
                        have := Row.new w2 (List.replicate (A.length + B.length) (.string ⟨#[]⟩)) 9
                        rw [← made_list] at this
                        rw [fill_zero, hab]
                        simpa using this
                      case round =>
                        obtain ⟨k, rfl, hk, hR, hBl⟩ := hrel
                        by_cases hlt : k < A.length
                        · obtain ⟨x, hx⟩ : ∃ x, A[k]? = some x := ⟨A[k], List.getElem?_eq_getElem hlt⟩
                          have hx2 : (A ++ B)[k]? = some x := by rw [List.getElem?_append_left hlt]; exact hx
                          obtain ⟨g, eg, hc⟩ := HCA2.out k x hx
                          subst eg
                          have hglt := World.block_lt_of_cell? w2 _ hc
                          have hc2 := cell_stays hc hBl
                          have cK := hR.cell k _ (fill_at Value.string _ (A ++ B) k (by omega))
                          have fK := hR.free k
                          have HS : Hid _ := fill_set Value.string (.string ⟨#[]⟩) (A ++ B) k x hx2
                          clear hx hx2 hc
                          go_wp2
                          go_roundw
                          case rel => exact ⟨k + 1, by go_num, by omega, by rw [← HS.out]; exact hR.set k _, hBl.setCell (Nat.le_refl _) _⟩
                          case measure => simp [RowKit.intOf]; omega
                        · have hk2 : k = A.length := by omega
                          subst hk2
                          go_wp2
                          go_loopw [14] (fun j wr => ∃ k : Nat, j = .int .i64 k ∧ k ≤ B.length ∧ Row wr w2.heap.size 9 (fill Value.string (.string ⟨#[]⟩) (A ++ B) (A.length + k)) ∧ Below w2.heap.size w2 wr) (fun j _ => B.length - (RowKit.intOf j).toNat)
                          case atStart => exact ⟨0, rfl, Nat.zero_le _, hR, hBl⟩
                          case round =>
                            obtain ⟨k, rfl, hk, hR2, hBl2⟩ := hrel
                            by_cases hlt2 : k < B.length
                            · obtain ⟨x, hx⟩ : ∃ x, B[k]? = some x := ⟨B[k], List.getElem?_eq_getElem hlt2⟩
                              have hx2 : (A ++ B)[A.length + k]? = some x := by rw [List.getElem?_append_right (by omega)]; simpa using hx
                              obtain ⟨g, eg, hc⟩ := HCB.out k x hx
                              subst eg
                              have hglt := World.block_lt_of_cell? w2 _ hc
                              have hc2 := cell_stays hc hBl2
                              have cK := hR2.cell (A.length + k) _ (fill_at Value.string _ (A ++ B) (A.length + k) (by omega))
                              have fK := hR2.free (A.length + k)
                              have HS : Hid _ := fill_set Value.string (.string ⟨#[]⟩) (A ++ B) (A.length + k) x hx2
                              clear hx hx2 hc
                              go_wp2
                              go_roundw
                              case rel => exact ⟨k + 1, by go_num, by omega, by rw [← Nat.add_assoc, ← HS.out]; exact hR2.set (A.length + k) _, hBl2.setCell (Nat.le_refl _) _⟩
                              case measure => simp [RowKit.intOf]; omega
                            · have hk2 : k = B.length := by omega
                              subst hk2
                              rw [← hab, fill_all] at hR2
                              have hSab : Strs wr (.slice (some ⟨w2.heap.size, 0, none⟩) (A.length + B.length) (A.length + B.length)) (A ++ B) := .inr ⟨_, by rw [hab], hR2⟩
                              have hsAB : ∀ x ∈ A ++ B, x.size ≤ 1048576 := fun x hx => (List.mem_append.1 hx).elim (a2 x) (b2 x)
                              have hbr : Below w.heap.size w wr := hb02.trans (hBl2.mono hb02.size)
                              have hSAr := hSA2.below hBl2
                              have hSBr := hSB.below hBl2
                              have HL : Hid _ := Pl.ioc_append name.data.toList (lists A) (lists B)
                              have HF : Hid _ := Pl.ioc_flip name.data.toList
                              have HLL : lists (A ++ B) = lists A ++ lists B := by simp [lists]
                              clear hSA hSA2 hSB HCA2 HCB hR hR2 hBl
                              go_wp2_with fail
                              refine (zz_any _ (A ++ B) name n1 (by omega) hsAB wr (hE.below hbr) hSab).mono ?_
                              rintro e w3 ⟨rfl, hb3⟩
                              have hb03 := hbr.trans (hb3.mono hbr.size)
                              have hSA3 := hSAr.below hb3
                              have hSB3 := hSBr.below hb3
                              rw [HLL]
                              obtain ⟨g0, hg0⟩ : ∃ b, Pl.ioc name.data.toList (lists A ++ lists B) = b := ⟨_, rfl⟩
                              rw [hg0]
                              clear hSab hSAr hSBr hBl2 hsAB HLL
                              go_wp2_with fail
                              refine (zz_any _ A name n1 a1 a2 w3 (hE.below hb03) hSA3).mono ?_
                              rintro e w4 ⟨rfl, hb4⟩
                              have hb04 := hb03.trans (hb4.mono hb03.size)
                              have hSA4 := hSA3.below hb4
                              have hSB4 := hSB3.below hb4
                              obtain ⟨gA, hgA⟩ : ∃ b, Pl.ioc name.data.toList (lists A) = b := ⟨_, rfl⟩
                              rw [hgA]
                              clear hSA3 hSB3
                              go_wp2_with fail
                              refine (zz_any _ B name n1 b1 b2 w4 (hE.below hb04) hSB4).mono ?_
                              rintro e w5 ⟨rfl, hb5⟩
                              have hb05 := hb04.trans (hb5.mono hb04.size)
                              have hSA5 := hSA4.below hb5
                              have hSB5 := hSB4.below hb5
                              obtain ⟨gB, hgB⟩ : ∃ b, Pl.ioc name.data.toList (lists B) = b := ⟨_, rfl⟩
                              rw [hgB]
                              clear hSA4 hSB4
                              go_wp2_with fail
                              refine (has_any _ A name w5 hSA5 a1).mono ?_
                              rintro e w5' ⟨rfl, rfl⟩
                              obtain ⟨cA, hcA⟩ : ∃ b, (lists A).contains name.data.toList = b := ⟨_, rfl⟩
                              rw [hcA]
                              have key : Hid (g0 = (!cA && (!(lists B).contains name.data.toList && (gA || gB)))) := by show g0 = _; rw [← hg0, HL.out, hcA, hgA, hgB]
                              clear HL hg0 hgA hgB hcA
                              cases cA with
                              | true =>
                                obtain rfl : g0 = false := by simpa using key.out
                                clear key
                                go_wp2_with fail
                                refine (flip_any name w5' n1).mono ?_
                                rintro e w6 ⟨rfl, hb6⟩
                                have hb06 := hb05.trans (hb6.mono hb05.size)
                                have hfl : (ByteArray.mk (Pl.flip name.data.toList).toArray).size ≤ 1048576 := by rw [flip_size]; exact n1
                                have hfd : lists [ByteArray.mk (Pl.flip name.data.toList).toArray] = [Pl.flip name.data.toList] := by simp [lists]
                                by_cases hfn : Pl.flip name.data.toList = name.data.toList
                                · have hff : ByteArray.mk (Pl.flip name.data.toList).toArray = name := bytes_ext (by simpa using hfn)
                                  rw [hff] at hfl hfd ⊢
                                  have h07 := hb06.alloc hb06.size (.cells #[.string name] 9)
                                  have hS7 : Strs (w6.alloc (.cells #[.string name] 9)) (.slice (some ⟨w6.heap.size, 0, none⟩) 1 1) [name] := .inr ⟨_, rfl, Row.new w6 [.string name] 9⟩
                                  go_wp2_with fail
                                  refine (zz_any _ [name] name n1 (by simp) (fun x hx => by rw [List.mem_singleton.1 hx]; exact n1) _ (hE.below h07) hS7).mono ?_
                                  rintro e w8 ⟨rfl, hb8⟩
                                  have hb08 := h07.trans (hb8.mono h07.size)
                                  rw [hfd, HF.out, hfn]
                                  go_wp2
                                  go_ret
                                  exact ⟨by simp, hb08⟩
                                · have hff : ByteArray.mk (Pl.flip name.data.toList).toArray ≠ name := fun e => hfn (by have := congrArg (fun b => b.data.toList) e; simpa using this)
                                  have hsn := str_ne hff
                                  have hfb : (Pl.flip name.data.toList == name.data.toList) = false := by simpa using hfn
                                  generalize ByteArray.mk (Pl.flip name.data.toList).toArray = f at *
                                  have h07 := hb06.alloc hb06.size (.cells #[.string f] 9)
                                  have hS7 : Strs (w6.alloc (.cells #[.string f] 9)) (.slice (some ⟨w6.heap.size, 0, none⟩) 1 1) [f] := .inr ⟨_, rfl, Row.new w6 [.string f] 9⟩
                                  go_wp2_with fail
                                  refine (zz_any _ [f] name n1 (by simp) (fun x hx => by rw [List.mem_singleton.1 hx]; exact hfl) _ (hE.below h07) hS7).mono ?_
                                  rintro e w8 ⟨rfl, hb8⟩
                                  have hb08 := h07.trans (hb8.mono h07.size)
                                  rw [hfd, HF.out, hfb]
                                  go_wp2
                                  go_ret
                                  exact ⟨by simp, hb08⟩
                              | false =>
                                go_wp2_with fail
                                refine (has_any _ B name w5' hSB5 b1).mono ?_
                                rintro e w5'' ⟨rfl, rfl⟩
                                obtain ⟨cB, hcB⟩ : ∃ b, (lists B).contains name.data.toList = b := ⟨_, rfl⟩
                                rw [hcB] at key ⊢
                                clear hcB
                                cases cB with
                                | true =>
                                  obtain rfl : g0 = false := by simpa using key.out
                                  clear key
                                  go_wp2_with fail
                                  refine (flip_any name w5'' n1).mono ?_
                                  rintro e w6 ⟨rfl, hb6⟩
                                  have hb06 := hb05.trans (hb6.mono hb05.size)
                                  have hfl : (ByteArray.mk (Pl.flip name.data.toList).toArray).size ≤ 1048576 := by rw [flip_size]; exact n1
                                  have hfd : lists [ByteArray.mk (Pl.flip name.data.toList).toArray] = [Pl.flip name.data.toList] := by simp [lists]
                                  by_cases hfn : Pl.flip name.data.toList = name.data.toList
                                  · have hff : ByteArray.mk (Pl.flip name.data.toList).toArray = name := bytes_ext (by simpa using hfn)
                                    rw [hff] at hfl hfd ⊢
                                    have h07 := hb06.alloc hb06.size (.cells #[.string name] 9)
                                    have hS7 : Strs (w6.alloc (.cells #[.string name] 9)) (.slice (some ⟨w6.heap.size, 0, none⟩) 1 1) [name] := .inr ⟨_, rfl, Row.new w6 [.string name] 9⟩
                                    go_wp2_with fail
                                    refine (zz_any _ [name] name n1 (by simp) (fun x hx => by rw [List.mem_singleton.1 hx]; exact n1) _ (hE.below h07) hS7).mono ?_
                                    rintro e w8 ⟨rfl, hb8⟩
                                    have hb08 := h07.trans (hb8.mono h07.size)
                                    rw [hfd, HF.out, hfn]
                                    go_wp2
                                    go_ret
                                    exact ⟨by simp, hb08⟩
                                  · have hff : ByteArray.mk (Pl.flip name.data.toList).toArray ≠ name := fun e => hfn (by have := congrArg (fun b => b.data.toList) e; simpa using this)
                                    have hsn := str_ne hff
                                    have hfb : (Pl.flip name.data.toList == name.data.toList) = false := by simpa using hfn
                                    generalize ByteArray.mk (Pl.flip name.data.toList).toArray = f at *
                                    have h07 := hb06.alloc hb06.size (.cells #[.string f] 9)
                                    have hS7 : Strs (w6.alloc (.cells #[.string f] 9)) (.slice (some ⟨w6.heap.size, 0, none⟩) 1 1) [f] := .inr ⟨_, rfl, Row.new w6 [.string f] 9⟩
                                    go_wp2_with fail
                                    refine (zz_any _ [f] name n1 (by simp) (fun x hx => by rw [List.mem_singleton.1 hx]; exact hfl) _ (hE.below h07) hS7).mono ?_
                                    rintro e w8 ⟨rfl, hb8⟩
                                    have hb08 := h07.trans (hb8.mono h07.size)
                                    rw [hfd, HF.out, hfb]
                                    go_wp2
                                    go_ret
                                    exact ⟨by simp, hb08⟩
                                | false =>
                                  cases gA with
                                  | true =>
                                    obtain rfl : g0 = true := by simpa using key.out
                                    clear key
                                    go_wp2_with fail
                                    refine (flip_any name w5'' n1).mono ?_
                                    rintro e w6 ⟨rfl, hb6⟩
                                    have hb06 := hb05.trans (hb6.mono hb05.size)
                                    have hfl : (ByteArray.mk (Pl.flip name.data.toList).toArray).size ≤ 1048576 := by rw [flip_size]; exact n1
                                    have hfd : lists [ByteArray.mk (Pl.flip name.data.toList).toArray] = [Pl.flip name.data.toList] := by simp [lists]
                                    by_cases hfn : Pl.flip name.data.toList = name.data.toList
                                    · have hff : ByteArray.mk (Pl.flip name.data.toList).toArray = name := bytes_ext (by simpa using hfn)
                                      rw [hff] at hfl hfd ⊢
                                      have h07 := hb06.alloc hb06.size (.cells #[.string name] 9)
                                      have hS7 : Strs (w6.alloc (.cells #[.string name] 9)) (.slice (some ⟨w6.heap.size, 0, none⟩) 1 1) [name] := .inr ⟨_, rfl, Row.new w6 [.string name] 9⟩
                                      go_wp2_with fail
                                      refine (zz_any _ [name] name n1 (by simp) (fun x hx => by rw [List.mem_singleton.1 hx]; exact n1) _ (hE.below h07) hS7).mono ?_
                                      rintro e w8 ⟨rfl, hb8⟩
                                      have hb08 := h07.trans (hb8.mono h07.size)
                                      rw [hfd, HF.out, hfn]
                                      go_wp2
                                      go_ret
                                      exact ⟨by simp, hb08⟩
                                    · have hff : ByteArray.mk (Pl.flip name.data.toList).toArray ≠ name := fun e => hfn (by have := congrArg (fun b => b.data.toList) e; simpa using this)
                                      have hsn := str_ne hff
                                      have hfb : (Pl.flip name.data.toList == name.data.toList) = false := by simpa using hfn
                                      generalize ByteArray.mk (Pl.flip name.data.toList).toArray = f at *
                                      have h07 := hb06.alloc hb06.size (.cells #[.string f] 9)
                                      have hS7 : Strs (w6.alloc (.cells #[.string f] 9)) (.slice (some ⟨w6.heap.size, 0, none⟩) 1 1) [f] := .inr ⟨_, rfl, Row.new w6 [.string f] 9⟩
                                      go_wp2_with fail
                                      refine (zz_any _ [f] name n1 (by simp) (fun x hx => by rw [List.mem_singleton.1 hx]; exact hfl) _ (hE.below h07) hS7).mono ?_
                                      rintro e w8 ⟨rfl, hb8⟩
                                      have hb08 := h07.trans (hb8.mono h07.size)
                                      rw [hfd, HF.out, hfb]
                                      go_wp2
                                      go_ret
                                      exact ⟨by simp, hb08⟩
                                  | false =>
                                    obtain rfl : g0 = gB := by simpa using key.out
                                    clear key
                                    go_wp2_with fail
                                    refine (flip_any name w5'' n1).mono ?_
                                    rintro e w6 ⟨rfl, hb6⟩
                                    have hb06 := hb05.trans (hb6.mono hb05.size)
                                    have hfl : (ByteArray.mk (Pl.flip name.data.toList).toArray).size ≤ 1048576 := by rw [flip_size]; exact n1
                                    have hfd : lists [ByteArray.mk (Pl.flip name.data.toList).toArray] = [Pl.flip name.data.toList] := by simp [lists]
                                    by_cases hfn : Pl.flip name.data.toList = name.data.toList
                                    · have hff : ByteArray.mk (Pl.flip name.data.toList).toArray = name := bytes_ext (by simpa using hfn)
                                      rw [hff] at hfl hfd ⊢
                                      have h07 := hb06.alloc hb06.size (.cells #[.string name] 9)
                                      have hS7 : Strs (w6.alloc (.cells #[.string name] 9)) (.slice (some ⟨w6.heap.size, 0, none⟩) 1 1) [name] := .inr ⟨_, rfl, Row.new w6 [.string name] 9⟩
                                      go_wp2_with fail
                                      refine (zz_any _ [name] name n1 (by simp) (fun x hx => by rw [List.mem_singleton.1 hx]; exact n1) _ (hE.below h07) hS7).mono ?_
                                      rintro e w8 ⟨rfl, hb8⟩
                                      have hb08 := h07.trans (hb8.mono h07.size)
                                      rw [hfd, HF.out, hfn]
                                      go_wp2
                                      go_ret
                                      exact ⟨by simp, hb08⟩
                                    · have hff : ByteArray.mk (Pl.flip name.data.toList).toArray ≠ name := fun e => hfn (by have := congrArg (fun b => b.data.toList) e; simpa using this)
                                      have hsn := str_ne hff
                                      have hfb : (Pl.flip name.data.toList == name.data.toList) = false := by simpa using hfn
                                      generalize ByteArray.mk (Pl.flip name.data.toList).toArray = f at *
                                      have h07 := hb06.alloc hb06.size (.cells #[.string f] 9)
                                      have hS7 : Strs (w6.alloc (.cells #[.string f] 9)) (.slice (some ⟨w6.heap.size, 0, none⟩) 1 1) [f] := .inr ⟨_, rfl, Row.new w6 [.string f] 9⟩
                                      go_wp2_with fail
                                      refine (zz_any _ [f] name n1 (by simp) (fun x hx => by rw [List.mem_singleton.1 hx]; exact hfl) _ (hE.below h07) hS7).mono ?_
                                      rintro e w8 ⟨rfl, hb8⟩
                                      have hb08 := h07.trans (hb8.mono h07.size)
                                      rw [hfd, HF.out, hfb]
                                      go_wp2
                                      go_ret
                                      exact ⟨by simp, hb08⟩
            · go_wp2
              go_ret
              exact ⟨rfl, hb02⟩
      · go_wp2
        go_ret
        exact ⟨rfl, Below.refl _ _⟩
    · go_wp2
      go_ret
      exact ⟨rfl, Below.refl _ _⟩

end Go.Proofs.Qxb6616414aDoor
