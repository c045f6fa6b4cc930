/-
  ZZsegs: the two slices that it makes hold the kinds and the texts.
-/
import Derived.Test.Qxb6616416aFmtW2
import Derived.Test.Qxb6616416aFmtRow
import Derived.Deep.Light
import Derived.Deep.QuietTactic
import Derived.BigQuiet
namespace Go.Proofs.Qxb6616416aFmt
open Go.RowKit

theorem Tryf.info3 : (Tryf.prog.info? 3).map (fun i => (i.zero, i.size, i.bytes)) = some (some (.int .i64 0), 1, 8) := by kernel_rfl
theorem Tryf.info9 : (Tryf.prog.info? 9).map (fun i => (i.zero, i.size, i.bytes)) = some (some (.string ⟨#[]⟩), 1, 16) := by kernel_rfl

/-- the cells of a list of segments -/
def flat (gs : List (Int × ByteArray)) : List Value := gs.flatMap fun g => [.int .i64 g.1, .string g.2]

theorem flat_at : ∀ (gs : List (Int × ByteArray)) (i : Nat) (g : Int × ByteArray), gs[i]? = some g → (flat gs)[i * 2]? = some (.int .i64 g.1) ∧ (flat gs)[i * 2 + 1]? = some (.string g.2)
  | [], i, g, h => by simp at h
  | x :: xs, 0, g, h => by simp at h; subst h; simp [flat]
  | x :: xs, i + 1, g, h => by
    have := flat_at xs i g (by simpa using h)
    have e : flat (x :: xs) = .int .i64 x.1 :: .string x.2 :: flat xs := by simp [flat]
    rw [e, show (i + 1) * 2 = i * 2 + 1 + 1 by omega, show i * 2 + 1 + 1 + 1 = (i * 2 + 1) + 1 + 1 by omega]
    simpa using this

def kindV (g : Int × ByteArray) : Value := .int .i64 g.1
def textV (g : Int × ByteArray) : Value := .string g.2

set_option maxHeartbeats 400000 in
theorem segs_any (t : ByteArray) (b c : Nat) (m : Int) (gs : List (Int × ByteArray)) (w : World) (hs : gs.length ≤ 1048576) (hrow : Row w b 44 (flat gs)) :
    Calls Tryf.prog 6 #[.agg #[.string t, .slice (some ⟨b, 0, none⟩) gs.length c, .int .i64 m]] w fun e w' =>
      e = .returned (.tuple #[.slice (some ⟨w.heap.size + 1, 0, none⟩) gs.length gs.length, .slice (some ⟨w.heap.size + 1 + 1, 0, none⟩) gs.length gs.length, .int .i64 m]) ∧
      Row w' (w.heap.size + 1) 3 (gs.map kindV) ∧ Row w' (w.heap.size + 1 + 1) 9 (gs.map textV) ∧ Below w.heap.size w w' := by
  obtain ⟨i3, h3, z3, s3, b3⟩ := info_parts Tryf.info3
  obtain ⟨i9, h9, z9, s9, b9⟩ := info_parts Tryf.info9
  have hm3 := fun (w : World) => run_make (P := Tryf.prog) w 30 3 i3 _ Tryf.underlying30 h3 z3 .i64 .i64 gs.length gs.length (by omega) (Int.le_refl _) (by rw [b3]; omega) (by omega)
  have hm9 := fun (w : World) => run_make (P := Tryf.prog) w 31 9 i9 _ Tryf.underlying31 h9 z9 .i64 .i64 gs.length gs.length (by omega) (Int.le_refl _) (by rw [b9]; omega) (by omega)
  have hblt := hrow.lt
  go_enter Tryf.func6, Tryf.ntmps6
  go_wp2
  clear hm3 hm9
  go_loopw [20] (fun i wr => ∃ k : Nat, k ≤ gs.length ∧ i = .int .i64 k ∧ Row wr (w.heap.size + 1) 3 (fill kindV (.int .i64 0) gs k) ∧ Row wr (w.heap.size + 1 + 1) 9 (fill textV (.string ⟨#[]⟩) gs k) ∧
      Row wr w.heap.size 25 [.string t, .slice (some ⟨b, 0, none⟩) gs.length c, .int .i64 m] ∧ Below w.heap.size w wr) (fun i _ => gs.length - (intOf i).toNat)
  case atStart =>
    refine ⟨0, Nat.zero_le _, rfl, ?_, ?_, ?_, ?_⟩
    · have := (Row.new (w.alloc (.cells #[.string t, .slice (some ⟨b, 0, none⟩) gs.length c, .int .i64 m] 25)) (List.replicate gs.length (.int .i64 0)) 3).alloc (.cells (madeCells #[.string ⟨#[]⟩] gs.length) 9)
      rw [← made_list] at this
      rw [fill_zero]
      simpa using this
    · have := Row.new ((w.alloc (.cells #[.string t, .slice (some ⟨b, 0, none⟩) gs.length c, .int .i64 m] 25)).alloc (.cells (madeCells #[.int .i64 0] gs.length) 3)) (List.replicate gs.length (.string ⟨#[]⟩)) 9
      rw [← made_list] at this
      rw [fill_zero]
      simpa using this
    · exact ((Row.new w [.string t, .slice (some ⟨b, 0, none⟩) gs.length c, .int .i64 m] 25).alloc _).alloc _
    · exact (((Below.refl _ w).alloc (Nat.le_refl _) _).alloc (by simp) _).alloc (by simp; omega) _
  case round =>
    obtain ⟨k, hk, rfl, hK, hT, hB, hb⟩ := hrel
    by_cases hlt : k < gs.length
    · obtain ⟨g, hg⟩ : ∃ g, gs[k]? = some g := ⟨gs[k], List.getElem?_eq_getElem hlt⟩
      have hf := flat_at gs k g hg
      have hrow' := hrow.below hb hblt
      have c1 := hrow'.cell _ _ hf.1
      have c2 := hrow'.cell _ _ hf.2
      have cK := hK.cell k _ (fill_at kindV _ gs k hlt)
      have fK := hK.free k
      have cT := hT.cell k _ (fill_at textV _ gs k hlt)
      have fT := hT.free k
      have zT := hT.lt
      have zK : w.heap.size + 1 < wr.heap.size := by omega
      have nb : ¬ b = w.heap.size + 1 := by omega
      have nb2 : ¬ b = w.heap.size + 1 + 1 := by omega
      have zb : b < wr.heap.size := by omega
      obtain ⟨g1, g2⟩ := g
      clear hf
      go_wp2
      go_light
      go_roundw
      case rel =>
        refine ⟨k + 1, by omega, by go_num, ?_, ?_, ?_, ?_⟩
        · rw [← fill_set kindV _ gs k (g1, g2) hg]
          exact ((hK.set k (.int .i64 g1)).other (by simp) _).alloc _
        · rw [← fill_set textV _ gs k (g1, g2) hg]
          exact ((hT.other (by simp) _).set k (.string g2)).alloc _
        · exact ((hB.other (by simp) _).other (by simp; omega) _).alloc _
        · exact ((hb.setCell (by simp) _).setCell (by simp; omega) _).alloc (by simp; omega) _
      case measure => simp [intOf]; omega
    · have hk' : k = gs.length := by omega
      subst hk'
      rw [fill_all] at hK hT
      have c1 := hB.cell 2 _ rfl
      go_wp2
      go_quiet (fail)
      go_wp2
      go_ret3
      refine ⟨rfl, ?_, ?_, ?_⟩
      · exact hK
      · exact hT
      · exact ⟨hb.os, hb.tape, hb.output, hb.size, hb.block⟩

end Go.Proofs.Qxb6616416aFmt
