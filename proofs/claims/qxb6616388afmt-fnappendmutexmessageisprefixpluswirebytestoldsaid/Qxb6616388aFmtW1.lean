/-
  The law's own helpers: varints, slices of bytes held against one another.
-/
import Derived.Test.Qxb6616388aFmtShelf
import Derived.Test.Qxb6616388aFmtPlain
import Derived.WalkKit
import Derived.WalkSpells
import Derived.WalkLawsBesides
import Derived.OwnWalk
import Derived.Lib.VarintMem
import Derived.Deep.Light
import Derived.Deep.QuietTactic
import Derived.BigQuiet
import Derived.Deep.LoopGhost
namespace Go.Proofs.Qxb6616388aFmt
open Go.RowKit

theorem info5 : (Tryf.prog.info? 5).map (fun i => (i.zero, i.size, i.bytes)) = some (some (.int .u8 0), 1, 1) := by kernel_rfl

set_option maxRecDepth 100000 in
theorem varLen_any (x : Nat) (hx : x < 18446744073709551616) (w : World) :
    Calls Tryf.prog 20 #[.int .u64 x] w fun e w' => e = .returned (.int .i64 (Lib.uvarint x).length) ∧ w' = w := by
  have hlen := Lib.uvarint_length64 hx
  go_enter Tryf.func20, Tryf.ntmps20
  go_wp2
  go_loop [0, 3] (fun v k => ∃ y m : Nat, v = .int .u64 y ∧ k = .int .i64 m ∧ y ≤ x ∧ 1 ≤ m ∧ m + (Lib.uvarint y).length = (Lib.uvarint x).length + 1) (fun v _ => (intOf v).toNat)
  case atStart => exact ⟨x, 1, rfl, rfl, Nat.le_refl _, Nat.le_refl _, by omega⟩
  case round =>
    obtain ⟨y, m, rfl, rfl, hy, hm, hl⟩ := hrel
    by_cases h : 128 ≤ y
    · have h2 := Pl.uvarint_len_step h
      have h3 := Lib.uvarint_pos (y / 128)
      go_wp2
      go_round
      case rel => exact ⟨y / 128, m + 1, by go_num, by go_num, by omega, by omega, by omega⟩
      case measure => simp [intOf]; omega
    · have h2 := Pl.uvarint_len_small (x := y) (by omega)
      go_wp2
      go_ret
      have : m = (Lib.uvarint x).length := by omega
      rw [this]
      exact ⟨rfl, rfl⟩

set_option maxHeartbeats 2000000 in
set_option maxRecDepth 100000 in
theorem zzUvarint_any (B n x : Nat) (hx : x < 18446744073709551616) (sv : Value) (xs : List Value) (w : World) (hown : w.ownsRow B 5 1 sv n xs) (hBw : B ≤ w.heap.size) (hlim : n + 10 ≤ 140737488355328) :
    Calls Tryf.prog 19 #[sv, .int .u64 x] w fun e w' => ∃ v', e = .returned v' ∧ w'.ownsRow B 5 1 v' (n + (Lib.uvarint x).length) (xs ++ Lib.byteCells (Lib.uvarint x)) ∧ Below B w w' := by
  obtain ⟨i0, hi, hz0, hz1, hz2⟩ := info_parts info5
  have hlen := Lib.uvarint_length64 hx
  go_enter Tryf.func19, Tryf.ntmps19
  go_wp2
  go_loopw [0, 1] (fun vb vx wr => ∃ (y : Nat) (pre : List UInt8), vx = .int .u64 y ∧ y ≤ x ∧ Lib.uvarint x = pre ++ Lib.uvarint y ∧ wr.ownsRow B 5 1 vb (n + pre.length) (xs ++ Lib.byteCells pre) ∧ Below B w wr)
    (fun _ vx _ => (intOf vx).toNat)
  case atStart => exact ⟨x, [], rfl, Nat.le_refl _, rfl, by simpa [Lib.byteCells] using hown, Below.refl _ _⟩
  case round =>
    obtain ⟨y, pre, rfl, hy, hsplit, hown1, hnx⟩ := hrel
    have hpl : pre.length + (Lib.uvarint y).length ≤ 10 := by
      have h2 := congrArg List.length hsplit
      rw [List.length_append] at h2
      omega
    have hyp := Lib.uvarint_pos y
    by_cases h128 : 128 ≤ y
    · have hor : bits .or .u8 ((y : Int) % 256) 128 = ((y % 128 + 128 : Nat) : Int) := by
        rw [Lib.u8_or128_any _ (by omega) (by omega)]
        omega
      go_wp2_with (at_builtin; refine wpList_append_own _ rfl _ _ 22 rfl B 5 i0 (.int .u8 0) 1 1 Tryf.underlying22 hi hz0 hz1 hz2 rfl (by decide) _ _ _ rfl (hown1.alloc _) ⟨wr.heap.size, 0, none⟩ 1 1 [Value.int .u8 ((y % 128 + 128 : Nat) : Int)] rfl rfl ?c1 ?c2 ?c3 ?c4 ?c5 ?_)
      case c1 =>
        intro j u hj
        match j, hj with
        | 0, hj => simp at hj; subst hj; simp [Addr.add]
      case c2 => intro u hu; simp at hu; subst hu; rfl
      case c3 => unfold maxLen; omega
      case c4 => omega
      case c5 => have := hnx.size; simp; omega
      intro v' w1 hown' hgrow _
      have hnx1 : Below B w w1 := (hnx.alloc (by have := hnx.size; omega) _).grown hgrow (by have := hnx.size; simp; omega) (fun k hk => (hown1.lt k hk).1)
      go_wp2
      go_roundw
      case rel =>
        refine ⟨y / 128, pre ++ [(y % 128 + 128).toUInt8], by go_num, by omega, by rw [hsplit, Lib.uvarint_big h128]; simp, ?_, hnx1⟩
        have ec : ((y % 128 + 128 : Nat) : Int) = (y : Int) % 128 + 128 := by omega
        rw [Lib.byteCells_snoc pre (by omega), List.length_append, List.length_singleton, ← Nat.add_assoc, ec]
        exact hown'
      case measure => simp [intOf]; omega
    · have hsm : Lib.uvarint y = [y.toUInt8] := Lib.uvarint_small (by omega)
      go_wp2_with (at_builtin; refine wpList_append_own _ rfl _ _ 22 rfl B 5 i0 (.int .u8 0) 1 1 Tryf.underlying22 hi hz0 hz1 hz2 rfl (by decide) _ _ _ rfl (hown1.alloc _) ⟨wr.heap.size, 0, none⟩ 1 1 [Value.int .u8 (y : Int)] rfl rfl ?c1 ?c2 ?c3 ?c4 ?c5 ?_)
      case c1 =>
        intro j u hj
        match j, hj with
        | 0, hj => simp at hj; subst hj; simp [Addr.add]
      case c2 => intro u hu; simp at hu; subst hu; rfl
      case c3 => unfold maxLen; omega
      case c4 => omega
      case c5 => have := hnx.size; simp; omega
      intro v' w1 hown' hgrow _
      have hnx1 : Below B w w1 := (hnx.alloc (by have := hnx.size; omega) _).grown hgrow (by have := hnx.size; simp; omega) (fun k hk => (hown1.lt k hk).1)
      go_wp2
      go_ret
      refine ⟨v', rfl, ?_, hnx1⟩
      rw [hsplit, hsm, Lib.byteCells_snoc pre (by omega), List.length_append, List.length_singleton, ← Nat.add_assoc]
      exact hown'

set_option maxHeartbeats 2000000 in
set_option maxRecDepth 100000 in
theorem appendUvarint_any (B n x : Nat) (hx : x < 18446744073709551616) (sv : Value) (xs : List Value) (w : World) (hown : w.ownsRow B 5 1 sv n xs) (hBw : B ≤ w.heap.size) (hlim : n + 10 ≤ 140737488355328) :
    Calls Tryf.prog 25 #[sv, .int .u64 x] w fun e w' => ∃ v', e = .returned v' ∧ w'.ownsRow B 5 1 v' (n + (Lib.uvarint x).length) (xs ++ Lib.byteCells (Lib.uvarint x)) ∧ Below B w w' := by
  obtain ⟨i0, hi, hz0, hz1, hz2⟩ := info_parts info5
  by_cases h128 : x < 128
  · have hsm : Lib.uvarint x = [x.toUInt8] := Lib.uvarint_small (by omega)
    go_enter Tryf.func25, Tryf.ntmps25
    go_wp2_with (at_builtin; refine wpList_append_own _ rfl _ _ 22 rfl B 5 i0 (.int .u8 0) 1 1 Tryf.underlying22 hi hz0 hz1 hz2 rfl (by decide) _ _ _ rfl (hown.alloc _) ⟨w.heap.size, 0, none⟩ 1 1 [Value.int .u8 (x : Int)] rfl rfl ?c1 ?c2 ?c3 ?c4 ?c5 ?_)
    case c1 =>
      intro j u hj
      match j, hj with
      | 0, hj => simp at hj; subst hj; simp [Addr.add]
    case c2 => intro u hu; simp at hu; subst hu; rfl
    case c3 => unfold maxLen; omega
    case c4 => omega
    case c5 => simp; omega
    intro v' w1 hown' hgrow _
    have hnx1 : Below B w w1 := ((Below.refl B w).alloc hBw _).grown hgrow (by simp; omega) (fun k hk => (hown.lt k hk).1)
    go_wp2
    go_ret
    refine ⟨v', rfl, ?_, hnx1⟩
    have e : Lib.byteCells [x.toUInt8] = [Value.int .u8 (x : Int)] := Lib.byteCells_snoc [] (a := x) (by omega)
    rw [hsm, e]
    exact hown'
  · by_cases h14 : x < 16384
    · have hsm : Lib.uvarint x = [(x % 128 + 128).toUInt8] ++ [(x / 128).toUInt8] := by rw [Lib.uvarint_big (by omega), Lib.uvarint_small (by omega)]; rfl
      have hor : bits .or .u8 ((x : Int) % 256) 128 = ((x % 128 + 128 : Nat) : Int) := by
        rw [Lib.u8_or128_any _ (by omega) (by omega)]
        omega
      go_enter Tryf.func25, Tryf.ntmps25
      go_wp2_with (at_builtin; refine wpList_append_own _ rfl _ _ 22 rfl B 5 i0 (.int .u8 0) 1 1 Tryf.underlying22 hi hz0 hz1 hz2 rfl (by decide) _ _ _ rfl (hown.alloc _) ⟨w.heap.size, 0, none⟩ 2 2 [Value.int .u8 ((x % 128 + 128 : Nat) : Int), Value.int .u8 ((x / 128 : Nat) : Int)] rfl rfl ?c1 ?c2 ?c3 ?c4 ?c5 ?_)
      case c1 =>
        intro j u hj
        match j, hj with
        | 0, hj => simp at hj; subst hj; simp [Addr.add]
        | 1, hj => simp at hj; subst hj; simp [Addr.add]
      case c2 =>
        intro u hu
        simp at hu
        rcases hu with rfl | rfl <;> rfl
      case c3 => unfold maxLen; omega
      case c4 => omega
      case c5 => simp; omega
      intro v' w1 hown' hgrow _
      have hnx1 : Below B w w1 := ((Below.refl B w).alloc hBw _).grown hgrow (by simp; omega) (fun k hk => (hown.lt k hk).1)
      go_wp2
      go_ret
      refine ⟨v', rfl, ?_, hnx1⟩
      have e : Lib.byteCells [(x % 128 + 128).toUInt8] = [Value.int .u8 ((x % 128 + 128 : Nat) : Int)] := Lib.byteCells_snoc [] (a := x % 128 + 128) (by omega)
      rw [hsm, Lib.byteCells_snoc _ (by omega), e]
      exact hown'
    · go_enter Tryf.func25, Tryf.ntmps25
      go_wp2_with fail
      refine (Tryf.binary_AppendUvarint B n x hx sv xs w hown hBw hlim).mono ?_
      rintro e w1 ⟨v', rfl, hown', hb⟩
      go_wp2
      go_ret
      exact ⟨v', rfl, hown', hb⟩

/-- a slice of bytes that reads as L -/
def Sees (w : World) (v : Value) (L : List UInt8) : Prop :=
  (L = [] ∧ ∃ ad c, v = .slice ad 0 c) ∨ ∃ b off c, v = .slice (some ⟨b, off, none⟩) L.length c ∧ L.length ≤ c ∧ c ≤ maxLen ∧ ∀ (j : Nat) x, L[j]? = some x → w.cell? ⟨b, off + j, none⟩ = some (.int .u8 x.toNat)

theorem Sees.own {w : World} {B n : Nat} {v : Value} {L : List UInt8} (h : w.ownsRow B 5 1 v n (Lib.byteCells L)) : Sees w v L := by
  have hn : n = L.length := by have := h.1; simp [Lib.byteCells_length] at this; omega
  subst hn
  rcases h.2 with ⟨rfl, h0⟩ | ⟨g, cap, cur, rfl, hb, hg, hnc, hcm, hcs, ht⟩
  · exact .inl ⟨List.eq_nil_of_length_eq_zero h0, none, 0, rfl⟩
  · refine .inr ⟨g, 0, cap, rfl, hnc, hcm, fun j x hx => ?_⟩
    have := h.cells (g := g) rfl j (.int .u8 x.toNat) (by simp [Lib.byteCells, hx])
    have e : (⟨g, 0, none⟩ : Addr).add j = ⟨g, 0 + j, none⟩ := by unfold Addr.add; split <;> simp_all
    rw [e] at this
    exact this

theorem Sees.below {w w' : World} {B : Nat} {v : Value} {L : List UInt8} (h : Sees w v L) (hb : Below B w w') (hlt : ∀ k, v.ownBlock = some k → k < B) : Sees w' v L := by
  rcases h with h | ⟨b, off, c, rfl, h1, h2, h3⟩
  · exact .inl h
  · exact .inr ⟨b, off, c, rfl, h1, h2, fun j x hx => by rw [hb.cell (p := ⟨b, off + j, none⟩) (hlt b rfl)]; exact h3 j x hx⟩

theorem below_drewN {B : Nat} {a w : World} (h : Below B a w) (n : Nat) : Below B a (w.drewN n) := ⟨h.os, h.tape, h.output, h.size, h.block⟩

set_option maxHeartbeats 1000000 in
set_option maxRecDepth 100000 in
theorem equal_any (a b : Value) (A L : List UInt8) (w : World) (ha : Sees w a A) (hb : Sees w b L) :
    Calls Tryf.prog 9 #[a, b] w fun e w' => e = .returned (.bool (decide (A = L))) ∧ ∃ q, w' = w.drewN q := by
  by_cases hl : A.length = L.length
  · rcases ha with ⟨rfl, ad, c, rfl⟩ | ⟨g, off, c, rfl, hc1, hc2, hcell⟩
    · have e : L = [] := List.eq_nil_of_length_eq_zero (by simpa using hl.symm)
      subst e
      have : ∃ ad' c', b = .slice ad' 0 c' := by
        rcases hb with ⟨_, h⟩ | ⟨g, off, c, rfl, _⟩
        · exact h
        · exact ⟨_, _, rfl⟩
      obtain ⟨ad', c', rfl⟩ := this
      go_enter Tryf.func9, Tryf.ntmps9
      go_wp2
      go_loop [5] (fun i => i = .int .i64 0) (fun _ => 0)
      case atStart => rfl
      case round =>
        subst hrel
        go_wp2
        go_ret
        exact ⟨rfl, 0, rfl⟩
    · rcases hb with ⟨rfl, ad', c', rfl⟩ | ⟨g', off', c', rfl, hc1', hc2', hcell'⟩
      · have e : A = [] := List.eq_nil_of_length_eq_zero (by simpa using hl)
        subst e
        go_enter Tryf.func9, Tryf.ntmps9
        go_wp2
        go_loop [5] (fun i => i = .int .i64 0) (fun _ => 0)
        case atStart => rfl
        case round =>
          subst hrel
          go_wp2
          go_ret
          exact ⟨rfl, 0, rfl⟩
      · have hml : A.length ≤ 9223372036854775807 := by unfold maxLen at hc2; omega
        rw [← hl]
        rw [← hl] at hc1'
        go_enter Tryf.func9, Tryf.ntmps9
        go_wp2
        go_loopw [5] (fun i wr => ∃ k q : Nat, i = .int .i64 k ∧ k ≤ A.length ∧ A.take k = L.take k ∧ wr = w.drewN q) (fun i _ => A.length - (intOf i).toNat)
        case atStart => exact ⟨0, 0, rfl, Nat.zero_le _, by simp, rfl⟩
        case round =>
          obtain ⟨k, q, rfl, hk, hpre, rfl⟩ := hrel
          by_cases hlt : k < A.length
          · obtain ⟨x, hx⟩ : ∃ x, A[k]? = some x := ⟨A[k], List.getElem?_eq_getElem hlt⟩
            obtain ⟨y, hy⟩ : ∃ y, L[k]? = some y := ⟨L[k]'(by omega), List.getElem?_eq_getElem (by omega)⟩
            have c1 := hcell k x hx
            have c2 := hcell' k y hy
            have hnext : ∀ (z : UInt8), x = z → y = z → A.take (k + 1) = L.take (k + 1) := fun z e1 e2 => by
              rw [List.take_add_one, List.take_add_one, hpre, hx, hy, e1, e2]
            have hne : x ≠ y → A ≠ L := fun hn e => hn (by rw [e, hy] at hx; exact (Option.some.inj hx).symm)
            have HNX : Hid _ := @hnext
            have HNE : Hid _ := hne
            have hd : (w.drewN q).drewN 0 = w.drewN q := rfl
            clear hnext hne hx hy hcell hcell' hpre
            by_cases hxy : x = y
            · subst hxy
              go_wp2
              go_quiet (fail)
              go_wp2
              go_roundw
              case rel => exact ⟨k + 1, _, by go_num, by omega, HNX.out x rfl rfl, rfl⟩
              case measure => simp [intOf]; omega
            · have hxn : ((x.toNat : Int) == (y.toNat : Int)) = false := by
                simp
                intro e
                exact hxy (UInt8.toNat_inj.1 (by omega))
              have hxn2 : ¬ (x.toNat : Int) = (y.toNat : Int) := by simpa using hxn
              go_wp2
              go_quiet (fail)
              go_wp2
              go_ret
              exact ⟨congrArg Ending.returned (congrArg Value.bool (decide_eq_false (HNE.out hxy)).symm), _, World.drewN_drewN ..⟩
          · have hk' : k = A.length := by omega
            subst hk'
            have e : A = L := by
              rw [List.take_length, hl, List.take_length] at hpre
              exact hpre
            subst e
            go_wp2
            go_ret
            exact ⟨by simp, q, rfl⟩
  · have hne : A ≠ L := fun e => hl (by rw [e])
    obtain ⟨ad, c, rfl⟩ : ∃ ad c, a = .slice ad A.length c := by
      rcases ha with ⟨rfl, ad, c, rfl⟩ | ⟨g, off, c, rfl, _⟩ <;> exact ⟨_, _, rfl⟩
    obtain ⟨ad', c', rfl⟩ : ∃ ad' c', b = .slice ad' L.length c' := by
      rcases hb with ⟨rfl, ad, c, rfl⟩ | ⟨g, off, c, rfl, _⟩ <;> exact ⟨_, _, rfl⟩
    have hne2 : ¬ (A.length : Int) = (L.length : Int) := by omega
    clear ha hb
    go_enter Tryf.func9, Tryf.ntmps9
    go_wp2
    go_ret
    exact ⟨congrArg Ending.returned (congrArg Value.bool (decide_eq_false hne).symm), 0, rfl⟩

end Go.Proofs.Qxb6616388aFmt
