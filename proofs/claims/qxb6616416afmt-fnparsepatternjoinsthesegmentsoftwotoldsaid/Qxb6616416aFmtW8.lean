/-
  ParsePattern: it refuses just where the plain parse does; else the pattern lies in new memory.
-/
import Derived.Test.Qxb6616416aFmtW7
namespace Go.Proofs.Qxb6616416aFmt
open Go.RowKit Go.Extern.Stop Go.Stop Go.Extern

/-- the plain parse of a pattern's text -/
def parsed (s : List UInt8) : Option (List Pl.Seg × Int) := Pl.scan Pl.okLit 0 (-1) (Pl.split (s.drop 1))

theorem pp_post {X : World} {a : Act} {b : Nat} {x y z err : Value} {Q : Ending → World → Prop} (ha2 : a.tmps[2]?.getD undef = .pointer (some ⟨b, 0, none⟩)) (ha3 : a.tmps[3]?.getD undef = err) (hd : a.defers = [])
    (hR : Row X b 25 [x, y, z]) (h : Q (.returned (.tuple #[.agg #[x, y, z], err])) X) : bodyPost Tryf.prog Tryf.f5 Q Exit.ret a X := by
  have q0 := hR.cell 0 _ rfl
  have q1 := hR.cell 1 _ rfl
  have q2 := hR.cell 2 _ rfl
  exact bodyPost_ret (v := .tuple #[.agg #[x, y, z], err]) (by simp [results, Tryf.results5, go_sem, ha2, ha3, q0, q1, q2]) hd h

/-- ParsePattern refuses. -/
theorem pp_no (F : Interp) (s : ByteArray) (w : World) (hs : s.size ≤ 1048576) (hE : Env F w) (h0 : 0 < s.size) (hne : (s.toList == [47, 42]) = false)
    (hp : Lib.hasPrefix s.data.toList [47] = true) (hno : parsed s.data.toList = none) :
    Calls Tryf.prog 5 #[.string s] w fun e w' => (∃ a : Addr, e = .returned (.tuple #[.agg #[.string ⟨#[]⟩, .slice none 0 0, .int .i64 0], .iface 39 (.pointer (some a))])) ∧ Below w.heap.size w w' := by
  have HN : Hid _ := hno
  clear hno
  have hb0 : Below w.heap.size w (w.alloc (.cells #[.string ⟨#[]⟩, .slice none 0 0, .int .i64 0] 25)) := (Below.refl _ w).alloc (Nat.le_refl _) _
  have hE1 := hE.below hb0 hE.size
  have hR := Row.new w [.string ⟨#[]⟩, .slice none 0 0, .int .i64 0] 25
  go_enter Tryf.func5, Tryf.ntmps5
  go_wp2_with fail
  refine (parse_any F s _ hs hE1 h0 hne hp).mono ?_
  rintro e w1 ⟨hPs, hb⟩
  unfold Parses at hPs
  rw [show Pl.scan Pl.okLit 0 (-1) (Pl.split (List.drop 1 s.data.toList)) = none from HN.out] at hPs
  obtain ⟨r, rfl, hr⟩ := hPs
  have hnee : (!r.toList.isEmpty) = true := by
    rw [Lib.toList_data]
    cases hd : r.data.toList with
    | nil => exact absurd (by rw [← ByteArray.size_data, ← Array.length_toList, hd]; rfl) hr
    | cons _ _ => rfl
  have hR1 := hR.below hb (by simp)
  have c0 := hR1.cell 0 _ rfl
  have c1 := hR1.cell 1 _ rfl
  have c2 := hR1.cell 2 _ rfl
  have f0 := hR1.free 0
  have f1 := hR1.free 1
  have f2 := hR1.free 2
  have z := hR1.lt
  clear hb0 hR
  go_wp2
  go_light
  have hbn := ((Below.refl _ w).alloc (Nat.le_refl _) _).trans (hb.mono (by simp))
  exact pp_post rfl rfl rfl (((((hR1.set 0 _).set 1 _).set 2 _).alloc _).alloc _) ⟨⟨_, rfl⟩, ((((hbn.setCell (Nat.le_refl _) _).setCell (Nat.le_refl _) _).setCell (Nat.le_refl _) _).alloc (by simp; omega) _).alloc (by simp; omega) _⟩

/-- ParsePattern takes it. -/
theorem pp_yes (F : Interp) (s : ByteArray) (w : World) (hs : s.size ≤ 1048576) (hE : Env F w) (h0 : 0 < s.size) (hne : (s.toList == [47, 42]) = false)
    (hp : Lib.hasPrefix s.data.toList [47] = true) (sg : List Pl.Seg) (many : Int) (hyes : parsed s.data.toList = some (sg, many)) :
    Calls Tryf.prog 5 #[.string s] w fun e w' => ∃ (b : Nat) (gs : List (Int × ByteArray)), e = .returned (.tuple #[.agg #[.string s, .slice (some ⟨b, 0, none⟩) gs.length gs.length, .int .i64 many], .nilIface]) ∧
      Row w' b 44 (flat gs) ∧ toSegs gs = sg ∧ w.heap.size ≤ b ∧ Below w.heap.size w w' := by
  have HN : Hid _ := hyes
  clear hyes
  have hb0 : Below w.heap.size w (w.alloc (.cells #[.string ⟨#[]⟩, .slice none 0 0, .int .i64 0] 25)) := (Below.refl _ w).alloc (Nat.le_refl _) _
  have hE1 := hE.below hb0 hE.size
  have hR := Row.new w [.string ⟨#[]⟩, .slice none 0 0, .int .i64 0] 25
  go_enter Tryf.func5, Tryf.ntmps5
  go_wp2_with fail
  refine (parse_any F s _ hs hE1 h0 hne hp).mono ?_
  rintro e w1 ⟨hPs, hb⟩
  unfold Parses at hPs
  rw [show Pl.scan Pl.okLit 0 (-1) (Pl.split (List.drop 1 s.data.toList)) = some (sg, many) from HN.out] at hPs
  obtain ⟨bs, gs, rfl, hrow, hsg, hbs⟩ := hPs
  have hR1 := hR.below hb (by simp)
  have c0 := hR1.cell 0 _ rfl
  have c1 := hR1.cell 1 _ rfl
  have c2 := hR1.cell 2 _ rfl
  have f0 := hR1.free 0
  have f1 := hR1.free 1
  have f2 := hR1.free 2
  have z := hR1.lt
  have hbs' : w.heap.size + 1 ≤ bs := by simpa using hbs
  have hsg' : Hid _ := hsg
  clear hb0 hR hbs hsg
  go_wp2
  go_light
  have hbn := ((Below.refl _ w).alloc (Nat.le_refl _) _).trans (hb.mono (by simp))
  exact pp_post rfl rfl rfl ((((hR1.set 0 _).set 1 _).set 2 _).alloc _) ⟨bs, gs, rfl, (((hrow.other (by simp; omega) _).other (by simp; omega) _).other (by simp; omega) _).alloc _, hsg'.out, by omega, (((hbn.setCell (Nat.le_refl _) _).setCell (Nat.le_refl _) _).setCell (Nat.le_refl _) _).alloc (by simp; omega) _⟩

end Go.Proofs.Qxb6616416aFmt
