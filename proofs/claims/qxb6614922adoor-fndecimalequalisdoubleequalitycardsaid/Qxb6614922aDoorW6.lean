/-
  fmtEFG, in the form e.
-/
import Derived.Test.Qxb6614922aDoorW5
import Derived.OwnWalk
import Derived.Lib.AppendStr
namespace Go.Proofs.Qxb6614922aDoor
open Go.RowKit

theorem info5 : (Tryd.prog.info? 5).map (fun i => (i.zero, i.size, i.bytes)) = some (some (.int .u8 0), 1, 1) := by kernel_rfl
/-- a slice of the call's own that holds these bytes -/
def Own (B : Nat) (w : World) (v : Value) (L : List UInt8) : Prop := w.ownsRow B 5 1 v L.length (Lib.byteCells L)
theorem Own.nil (B : Nat) (w : World) : Own B w (.slice none 0 0) [] := World.ownsRow_nil w B 5 1
theorem Own.alloc {B : Nat} {w : World} {v : Value} {L : List UInt8} (h : Own B w v L) (o : Obj) : Own B (w.alloc o) v L := World.ownsRow.alloc h o
theorem Own.of {B n : Nat} {w : World} {v : Value} {L X : List UInt8} {xs : List Value} (h : w.ownsRow B 5 1 v n (Lib.byteCells L ++ xs)) (hx : xs = Lib.byteCells X) : Own B w v (L ++ X) := by
  subst hx
  rw [← Lib.byteCells_append] at h
  have hn : n = (L ++ X).length := by have := h.1; rw [Lib.byteCells_length] at this; omega
  subst hn
  exact h

theorem app_bytes {ops : Array Oper} {rest : List Oper} {o : Oper} {a : Act} {w : World} {Q : Exit → Act → World → Prop} (hgd : o.guard = none) (s x : Operand)
    (ho : o.op = .call { callee := .builtin .append, args := #[s, x], argTypes := #[23, 23] }) (B : Nat) (v : Value) (L : List UInt8) (hs : a.eval s = v) (hown : Own B w v L)
    (g off m c : Nat) (X : List UInt8) (hx : a.eval x = .slice (some ⟨g, off, none⟩) m c) (hm : X.length = m) (hnews : ∀ (j : Nat) y, X[j]? = some y → w.cell? ⟨g, off + j, none⟩ = some (.int .u8 (y.toNat : Int)))
    (hlen : L.length + X.length ≤ 1000) (hB : B ≤ w.heap.size)
    (h : ∀ v' w', Own B w' v' (L ++ X) → Below B w w' → wpList Tryd.prog ops Q rest (a.put o.dst v') w') : wpList Tryd.prog ops Q (o :: rest) a w := by
  obtain ⟨i0, hi, hz0, hz1, hz2⟩ := info_parts info5
  refine wpList_append_own _ hgd s x 23 ho B 5 i0 (.int .u8 0) 1 1 Tryd.underlying23 hi hz0 hz1 hz2 rfl (by decide) v L.length (Lib.byteCells L) hs hown ⟨g, off, none⟩ m c (Lib.byteCells X) hx (by rw [Lib.byteCells_length]; omega) ?_ ?_ (by unfold maxLen; omega) (by omega) hB ?_
  · intro j u hj
    rw [Lib.add_plain]
    simp only [Lib.byteCells, List.getElem?_map, Option.map_eq_some_iff] at hj
    obtain ⟨y, hy, rfl⟩ := hj
    exact hnews j y hy
  · intro u hu
    simp only [Lib.byteCells, List.mem_map] at hu
    obtain ⟨y, _, rfl⟩ := hu
    rfl
  · intro v' w' hown' hgrow _
    exact h v' w' (Own.of hown' rfl) ((Below.refl B w).grown hgrow hB (fun k hk => (hown.lt k hk).1))

namespace Pd
def expTxt (e : Nat) : List UInt8 :=
  if e < 10 then [48, (48 + e).toUInt8] else if e < 100 then [(48 + e / 10).toUInt8, (48 + e % 10).toUInt8] else [(48 + e / 100).toUInt8, (48 + e / 10 % 10).toUInt8, (48 + e % 10).toUInt8]
def sgn (e : Int) : UInt8 := if e < 0 then 45 else 43
/-- the digits, the point behind the first -/
def mantTxt (T : List UInt8) : List UInt8 := T.take 1 ++ (if 1 < T.length then 46 :: T.drop 1 else [])
def txt (T : List UInt8) (dp : Int) : List UInt8 := mantTxt T ++ [101] ++ [sgn (dp - 1)] ++ expTxt (dp - 1).natAbs
end Pd

set_option maxHeartbeats 4000000 in
set_option maxRecDepth 100000 in
theorem fmtE_any (g : Nat) (T : List UInt8) (dp : Int) (w : World) (hD : Dig w g T) (hg : g < w.heap.size) (hk1 : 1 ≤ T.length) (hk2 : T.length ≤ 20) (hd1 : -390 ≤ dp) (hd2 : dp ≤ 390) :
    Calls Tryd.prog 54 #[.slice none 0 0, .bool false, .slice (some ⟨g, 0, none⟩) 32 32, .int .i64 dp, .int .i64 (T.length : Nat), .int .i64 ((T.length : Int) - 1), .int .u8 101, .bool true] w
      fun e w' => ∃ v, e = .returned v ∧ Own w.heap.size w' v (Pd.txt T dp) ∧ Below w.heap.size w w' := by
  obtain ⟨t0, ht0⟩ : ∃ x, T[0]? = some x := ⟨T[0]'(by omega), List.getElem?_eq_getElem (by omega)⟩
  have c0 := hD.cell 0 t0 ht0
  have hO := Own.nil w.heap.size w
  go_enter Tryd.func54, Tryd.ntmps54
  go_wp2_with (at_builtin; refine app_bytes rfl _ _ rfl w.heap.size _ [] rfl (hO.alloc _) w.heap.size 0 1 1 [t0] rfl rfl ?c1 ?c2 ?c3 ?_)
  case c1 =>
    intro j y hj
    match j, hj with
    | 0, hj => simp at hj; subst hj; simp
  case c2 => simp
  case c3 => simp
  intro v1 w1 hO1 hb1
  have hb01 : Below w.heap.size w w1 := ((Below.refl w.heap.size w).alloc (Nat.le_refl _) _).trans hb1
  have hO1 : Own w.heap.size w1 v1 [t0] := hO1
  have hz1 := hb01.size
  clear hb1 hO c0
  go_upto_if 92 with fail
  go_cut [0, 20, 21] (fun s0 _ _ wx => Own w.heap.size wx s0 (Pd.mantTxt T) ∧ Below w.heap.size w wx)
  case first =>
    by_cases hk : 2 ≤ T.length
    · have hmt : Pd.mantTxt T = t0 :: 46 :: T.tail := by
        unfold Pd.mantTxt
        rw [if_pos (by omega)]
        cases T with
        | nil => simp at hk1
        | cons a l => simp at ht0; subst ht0; simp
      have HM : Hid _ := hmt
      have hD1 := hD.below hb01 hg
      clear hmt
      go_wp2_with (at_builtin; refine app_bytes rfl _ _ rfl w.heap.size _ [t0] rfl (hO1.alloc _) w1.heap.size 0 1 1 [46] rfl rfl ?c1 ?c2 ?c3 ?_)
      case c1 =>
        intro j y hj
        match j, hj with
        | 0, hj => simp at hj; subst hj; simp
      case c2 => simp
      case c3 => simp; omega
      intro v2 w2 hO2 hb2
      have hb02 : Below w.heap.size w w2 := (hb01.alloc hz1 _).trans hb2
      have hO2 : Own w.heap.size w2 v2 [t0, 46] := hO2
      have hD2 := hD.below hb02 hg
      have hz2 := hb02.size
      clear hb2 hD1 hO1
      go_wp2_with (at_builtin; refine app_bytes rfl _ _ rfl w.heap.size v2 [t0, 46] rfl hO2 g _ _ _ (T.drop 1) rfl ?c1 ?c2 ?c3 ?c4 ?_)
      case c1 => simp
      case c2 =>
        intro j y hj
        rw [List.getElem?_drop] at hj
        exact hD2.cell (1 + j) y hj
      case c3 => simp; omega
      case c4 => exact hz2
      intro v3 w3 hO3 hb3
      have hb03 := hb02.trans hb3
      have HO3 : Hid _ := hO3
      clear hb3 hO2 hD2 hO3
      go_wp2
      go_loopw [0, 114] (fun v0 v wr => v0 = v3 ∧ v = .int .i64 0 ∧ wr = w3) (fun _ _ _ => 0)
      case atStart => exact ⟨rfl, rfl, rfl⟩
      case round =>
        obtain ⟨rfl, rfl, rfl⟩ := hrel
        go_wp2
        go_meet
        exact ⟨by rw [HM.out]; exact HO3.out, hb03⟩
    · have hk' : T.length = 1 := by omega
      have hmt : Pd.mantTxt T = [t0] := by
        unfold Pd.mantTxt
        rw [if_neg (by omega)]
        cases T with
        | nil => simp at hk1
        | cons a l => simp at ht0; subst ht0; simp
      have HM : Hid _ := hmt
      clear hmt hk'
      go_wp2
      go_meet
      exact ⟨by rw [HM.out]; exact hO1, hb01⟩
  case rest =>
    obtain ⟨hOm, hbm⟩ := hcut
    obtain ⟨wm, rfl⟩ : ∃ wm, wm = wc := ⟨_, rfl⟩
    have hzm := hbm.size
    have hml : (Pd.mantTxt T).length ≤ 21 := by
      unfold Pd.mantTxt
      split <;> simp <;> omega
    have HTX : Hid (Pd.txt T dp = Pd.mantTxt T ++ [101] ++ [Pd.sgn (dp - 1)] ++ Pd.expTxt (dp - 1).natAbs) := rfl
    generalize Pd.mantTxt T = MT at *
    clear hO1 hb01 hz1
    go_wp2_with (at_builtin; refine app_bytes rfl _ _ rfl w.heap.size u0 MT rfl (hOm.alloc _) wm.heap.size 0 1 1 [101] rfl rfl ?c1 ?c2 ?c3 ?_)
    case c1 =>
      intro j y hj
      match j, hj with
      | 0, hj => simp at hj; subst hj; simp
    case c2 => simp; omega
    case c3 => simp; omega
    intro v4 w4 hO4 hb4
    have hb04 : Below w.heap.size w w4 := (hbm.alloc hzm _).trans hb4
    have hz4 := hb04.size
    have HO4 : Hid _ := hO4
    clear hb4 hOm hO4 hbm hzm
    go_upto_if 129 with fail
    go_cut [19, 22] (fun s19 s22 wx => s19 = .int .u8 ((Pd.sgn (dp - 1)).toNat : Int) ∧ s22 = .int .i64 ((dp - 1).natAbs : Int) ∧ wx = w4)
    case first =>
      by_cases hneg : dp - 1 < 0
      · have hs : ((Pd.sgn (dp - 1)).toNat : Int) = 45 := by unfold Pd.sgn; rw [if_pos hneg]; rfl
        have hab : ((dp - 1).natAbs : Int) = -(dp - 1) := by omega
        have HS : Hid _ := hs
        have HA : Hid _ := hab
        clear hs hab HTX
        go_wp2
        go_meet
        exact ⟨by rw [HS.out], by rw [HA.out], rfl⟩
      · have hs : ((Pd.sgn (dp - 1)).toNat : Int) = 43 := by unfold Pd.sgn; rw [if_neg hneg]; rfl
        have hab : ((dp - 1).natAbs : Int) = dp - 1 := by omega
        have HS : Hid _ := hs
        have HA : Hid _ := hab
        clear hs hab HTX
        go_wp2
        go_meet
        exact ⟨by rw [HS.out], by rw [HA.out], rfl⟩
    case rest =>
      obtain ⟨r19, r22, r1⟩ := hcut
      subst r19 r22 r1
      generalize hsg : Pd.sgn (dp - 1) = sg at *
      have hE : (dp - 1).natAbs < 400 := by omega
      generalize (dp - 1).natAbs = E at *
      have hO4 : Own w.heap.size wc v4 (MT ++ [101]) := HO4.out
      clear HO4 hsg
      go_wp2_with (at_builtin; refine app_bytes rfl _ _ rfl w.heap.size v4 (MT ++ [101]) rfl (hO4.alloc _) wc.heap.size 0 1 1 [sg] rfl rfl ?c1 ?c2 ?c3 ?_)
      case c1 =>
        intro j y hj
        match j, hj with
        | 0, hj => simp at hj; subst hj; simp
      case c2 => simp; omega
      case c3 => simp; omega
      intro v5 w5 hO5 hb5
      have hb05 : Below w.heap.size w w5 := (hb04.alloc hz4 _).trans hb5
      have hz5 := hb05.size
      have hO5 : Own w.heap.size w5 v5 (MT ++ [101, sg]) := by simpa using hO5
      clear hb5 hO4 hb04 hz4
      by_cases e1 : E < 10
      · obtain ⟨d2, hd2⟩ : ∃ x : UInt8, x.toNat = 48 + E := ⟨(48 + E).toUInt8, by simp; omega⟩
        have HE : Hid (Pd.expTxt E = [48, d2]) := by
          show Pd.expTxt E = _
          unfold Pd.expTxt
          rw [if_pos e1]
          rw [show d2 = (48 + E).toUInt8 from UInt8.toNat_inj.1 (by rw [hd2]; simp; omega)]
        go_wp2_with (at_builtin; refine app_bytes rfl _ _ rfl w.heap.size v5 (MT ++ [101, sg]) rfl (Own.alloc hO5 _) w5.heap.size 0 2 2 [48, d2] rfl rfl ?c1 ?c2 ?c3 ?_)
        case c1 =>
          intro j y hj
          match j, hj with
          | 0, hj => simp at hj; subst hj; simp
          | 1, hj => simp at hj; subst hj; simp; omega
        case c2 => simp; omega
        case c3 => simp; omega
        intro v6 w6 hO6 hb6
        have hb06 : Below w.heap.size w w6 := (hb05.alloc hz5 _).trans hb6
        go_wp2
        go_ret
        exact ⟨_, rfl, by rw [HTX.out, HE.out]; simpa using hO6, hb06⟩
      · by_cases e2 : E < 100
        · obtain ⟨d1, hd1⟩ : ∃ x : UInt8, x.toNat = 48 + E / 10 := ⟨(48 + E / 10).toUInt8, by simp; omega⟩
          obtain ⟨d2, hd2⟩ : ∃ x : UInt8, x.toNat = 48 + E % 10 := ⟨(48 + E % 10).toUInt8, by simp; omega⟩
          have HE : Hid (Pd.expTxt E = [d1, d2]) := by
            show Pd.expTxt E = _
            unfold Pd.expTxt
            rw [if_neg e1, if_pos e2]
            rw [show d1 = (48 + E / 10).toUInt8 from UInt8.toNat_inj.1 (by rw [hd1]; simp; omega)]
            rw [show d2 = (48 + E % 10).toUInt8 from UInt8.toNat_inj.1 (by rw [hd2]; simp; omega)]
          go_wp2_with (at_builtin; refine app_bytes rfl _ _ rfl w.heap.size v5 (MT ++ [101, sg]) rfl (Own.alloc hO5 _) w5.heap.size 0 2 2 [d1, d2] rfl rfl ?c1 ?c2 ?c3 ?_)
          case c1 =>
            intro j y hj
            match j, hj with
            | 0, hj => simp at hj; subst hj; simp; omega
            | 1, hj => simp at hj; subst hj; simp; omega
          case c2 => simp; omega
          case c3 => simp; omega
          intro v6 w6 hO6 hb6
          have hb06 : Below w.heap.size w w6 := (hb05.alloc hz5 _).trans hb6
          go_wp2
          go_ret
          exact ⟨_, rfl, by rw [HTX.out, HE.out]; simpa using hO6, hb06⟩
        · obtain ⟨d1, hd1⟩ : ∃ x : UInt8, x.toNat = 48 + E / 100 := ⟨(48 + E / 100).toUInt8, by simp; omega⟩
          obtain ⟨d2, hd2⟩ : ∃ x : UInt8, x.toNat = 48 + E / 10 % 10 := ⟨(48 + E / 10 % 10).toUInt8, by simp; omega⟩
          obtain ⟨d3, hd3⟩ : ∃ x : UInt8, x.toNat = 48 + E % 10 := ⟨(48 + E % 10).toUInt8, by simp; omega⟩
          have HE : Hid (Pd.expTxt E = [d1, d2, d3]) := by
            show Pd.expTxt E = _
            unfold Pd.expTxt
            rw [if_neg e1, if_neg e2]
            rw [show d1 = (48 + E / 100).toUInt8 from UInt8.toNat_inj.1 (by rw [hd1]; simp; omega)]
            rw [show d2 = (48 + E / 10 % 10).toUInt8 from UInt8.toNat_inj.1 (by rw [hd2]; simp; omega)]
            rw [show d3 = (48 + E % 10).toUInt8 from UInt8.toNat_inj.1 (by rw [hd3]; simp; omega)]
          go_wp2_with (at_builtin; refine app_bytes rfl _ _ rfl w.heap.size v5 (MT ++ [101, sg]) rfl (Own.alloc hO5 _) w5.heap.size 0 3 3 [d1, d2, d3] rfl rfl ?c1 ?c2 ?c3 ?_)
          case c1 =>
            intro j y hj
            match j, hj with
            | 0, hj => simp at hj; subst hj; simp; omega
            | 1, hj => simp at hj; subst hj; simp; omega
            | 2, hj => simp at hj; subst hj; simp; omega
          case c2 => simp; omega
          case c3 => simp; omega
          intro v6 w6 hO6 hb6
          have hb06 : Below w.heap.size w w6 := (hb05.alloc hz5 _).trans hb6
          go_wp2
          go_ret
          exact ⟨_, rfl, by rw [HTX.out, HE.out]; simpa using hO6, hb06⟩
end Go.Proofs.Qxb6614922aDoor
