/-
  What is appended: a name, a message.
-/
import Derived.Test.Qxb6616388aFmtW1
import Derived.Lib.AppendStr
import Derived.Deep.RegionLaw
import Derived.Deep.Cut
import Derived.Deep.CutRange
import Derived.Deep.DeepCutAuto
namespace Go.Proofs.Qxb6616388aFmt
open Go.RowKit

def Own (B : Nat) (w : World) (v : Value) (L : List UInt8) : Prop := w.ownsRow B 5 1 v L.length (Lib.byteCells L)
theorem Own.of {B n : Nat} {w : World} {v : Value} {L X : List UInt8} {xs : List Value} (h : w.ownsRow B 5 1 v n (Lib.byteCells L ++ xs)) (hx : xs = Lib.byteCells X) : Own B w v (L ++ X) := by
  subst hx
  rw [← Lib.byteCells_append] at h
  have hn : n = (L ++ X).length := by have := h.1; rw [Lib.byteCells_length] at this; omega
  subst hn
  exact h
theorem Own.sees {B : Nat} {w : World} {v : Value} {L : List UInt8} (h : Own B w v L) : Sees w v L := Sees.own h
theorem Own.nil (B : Nat) (w : World) : Own B w (.slice none 0 0) [] := World.ownsRow_nil w B 5 1
theorem Own.alloc {B : Nat} {w : World} {v : Value} {L : List UInt8} (h : Own B w v L) (o : Obj) : Own B (w.alloc o) v L := World.ownsRow.alloc h o
theorem Own.base {B B' : Nat} {w : World} {v : Value} {L : List UInt8} (h : Own B w v L) (hB : B' ≤ B) : Own B' w v L := by
  refine ⟨h.1, ?_⟩
  rcases h.2 with h | ⟨g, cap, cur, e, hb, r⟩
  · exact .inl h
  · exact .inr ⟨g, cap, cur, e, by omega, r⟩
theorem Own.block {B : Nat} {w : World} {v : Value} {L : List UInt8} (h : Own B w v L) : ∀ k, v.ownBlock = some k → B ≤ k ∧ k < w.heap.size := h.lt
theorem strCells_eq (s : ByteArray) : Lib.strCells s = Lib.byteCells s.data.toList := rfl

theorem appendUvarint_own (B x : Nat) (hx : x < 18446744073709551616) (sv : Value) (L : List UInt8) (w : World) (hown : Own B w sv L) (hBw : B ≤ w.heap.size) (hlim : L.length ≤ 100000000) :
    Calls Tryf.prog 25 #[sv, .int .u64 x] w fun e w' => ∃ v', e = .returned v' ∧ Own B w' v' (L ++ Lib.uvarint x) ∧ Below B w w' :=
  (appendUvarint_any B L.length x hx sv _ w hown hBw (by omega)).mono fun _ _ ⟨v', h1, h2, h3⟩ => ⟨v', h1, Own.of h2 rfl, h3⟩
theorem zzUvarint_own (B x : Nat) (hx : x < 18446744073709551616) (sv : Value) (L : List UInt8) (w : World) (hown : Own B w sv L) (hBw : B ≤ w.heap.size) (hlim : L.length ≤ 100000000) :
    Calls Tryf.prog 19 #[sv, .int .u64 x] w fun e w' => ∃ v', e = .returned v' ∧ Own B w' v' (L ++ Lib.uvarint x) ∧ Below B w w' :=
  (zzUvarint_any B L.length x hx sv _ w hown hBw (by omega)).mono fun _ _ ⟨v', h1, h2, h3⟩ => ⟨v', h1, Own.of h2 rfl, h3⟩

set_option maxHeartbeats 1000000 in
set_option maxRecDepth 100000 in
theorem appendName_any (B : Nat) (sv : Value) (L : List UInt8) (s : ByteArray) (hs : s.size ≤ 1048576) (w : World) (hown : Own B w sv L) (hBw : B ≤ w.heap.size) (hlim : L.length ≤ 10000000) :
    Calls Tryf.prog 24 #[sv, .string s] w fun e w' => ∃ v', e = .returned v' ∧ Own B w' v' (L ++ (Lib.uvarint s.size ++ s.data.toList)) ∧ Below B w w' := by
  obtain ⟨i0, hi, hz0, hz1, hz2⟩ := info_parts info5
  have hu := Lib.uvarint_length64 (x := s.size) (by omega)
  go_enter Tryf.func24, Tryf.ntmps24
  go_wp2_with fail
  refine (appendUvarint_own B s.size (by omega) sv L w hown hBw (by omega)).mono ?_
  rintro e w1 ⟨v1, rfl, hown1, hb1⟩
  have hB1 : B ≤ w1.heap.size := Nat.le_trans hBw hb1.size
  have hl1 : (L ++ Lib.uvarint s.size).length ≤ 20000000 := by simp; omega
  go_wp2_with (at_builtin; refine Lib.wpList_append_own_string _ rfl _ _ 22 9 rfl B 5 i0 Tryf.underlying22 Tryf.underlying9 hi hz0 hz1 hz2 _ _ _ rfl hown1 s rfl ?c3 ?c4 ?c5 ?_)
  case c3 => unfold maxLen; omega
  case c4 => omega
  case c5 => exact hB1
  intro v' w2 hown' hgrow _
  have hb2 : Below B w w2 := hb1.grown hgrow hB1 (fun k hk => (hown1.lt k hk).1)
  go_wp2
  go_ret
  refine ⟨v', rfl, ?_, hb2⟩
  rw [← List.append_assoc]
  exact Own.of hown' rfl

/-- a slice with no room left: nil, or as long as its row -/
def Full (w : World) (v : Value) (L : List UInt8) : Prop :=
  (v = .slice none 0 0 ∧ L = []) ∨ ∃ g, v = .slice (some ⟨g, 0, none⟩) L.length L.length ∧ w.heap[g]? = some (.cells (Lib.byteCells L).toArray 5 (0, 0))

theorem Full.alloc {w : World} {v : Value} {L : List UInt8} (h : Full w v L) (o : Obj) : Full (w.alloc o) v L := by
  rcases h with h | ⟨g, e, hg⟩
  · exact .inl h
  · exact .inr ⟨g, e, by rw [Below.heap_alloc w o g (Array.getElem?_eq_some_iff.1 hg).1]; exact hg⟩
theorem Full.sees {w : World} {v : Value} {L : List UInt8} (h : Full w v L) (hl : L.length ≤ maxLen) : Sees w v L := by
  rcases h with ⟨rfl, rfl⟩ | ⟨g, rfl, hg⟩
  · exact .inl ⟨rfl, _, _, rfl⟩
  · refine .inr ⟨g, 0, _, rfl, Nat.le_refl _, hl, fun j x hx => ?_⟩
    rw [cell_of_row w g _ _ 5 (0, 0) hg]
    simp [Lib.byteCells, hx]
theorem Full.below {w w' : World} {v : Value} {L : List UInt8} (h : Full w v L) (hb : Below w.heap.size w w') : Full w' v L := by
  rcases h with h | ⟨g, e, hg⟩
  · exact .inl h
  · exact .inr ⟨g, e, by rw [hb.block g (Array.getElem?_eq_some_iff.1 hg).1]; exact hg⟩

/-- append onto such a slice makes a new row -/
theorem run_append_full (ty : TypeId) (w : World) (v : Value) (L : List UInt8) (hv : Full w v L) (hl : L.length ≤ 1048576) (B : Nat) (x y : Nat) (hx : x < 256) (hy : y < 256)
    (hn : w.heap[B]? = some (.cells #[.int .u8 x, .int .u8 y] 5 (0, 0))) :
    ∃ v' w', (Builtin.append_ #[22, 22] ty #[v, .slice (some ⟨B, 0, none⟩) 2 2]).run Tryf.prog w = .ok v' w' ∧ Own w.heap.size w' v' (L ++ [x.toUInt8, y.toUInt8]) ∧ Below w.heap.size w w' := by
  obtain ⟨i0, hi, hz0, hz1, hz2⟩ := info_parts info5
  have hnews : ∀ j u, [Value.int .u8 (x : Int), .int .u8 (y : Int)][j]? = some u → w.cell? ((⟨B, 0, none⟩ : Addr).add j) = some u := fun j u hj => by
    have e : (⟨B, 0, none⟩ : Addr).add j = ⟨B, j, none⟩ := by unfold Addr.add; split <;> simp_all
    rw [e, cell_of_row w B j _ 5 (0, 0) hn]
    simpa using hj
  have ec : Lib.byteCells [x.toUInt8, y.toUInt8] = [Value.int .u8 (x : Int), .int .u8 (y : Int)] := by
    simp [Lib.byteCells]
    omega
  rcases hv with ⟨rfl, rfl⟩ | ⟨g, rfl, hg⟩
  · obtain ⟨v', w', hr, ho, hgr, _⟩ := run_append_own_at (P := Tryf.prog) w w.heap.size 22 ty 5 i0 _ 1 1 Tryf.underlying22 hi hz0 hz1 hz2 rfl (by decide) _ 0 [] (World.ownsRow_nil w _ 5 1) ⟨B, 0, none⟩ 2 2 _ (by rfl) hnews
      (by intro u hu; simp at hu; rcases hu with rfl | rfl <;> rfl) (by decide) (by decide) (Nat.le_refl _)
    refine ⟨v', w', hr, ?_, (Below.refl _ w).grown hgr (Nat.le_refl _) (fun k hk => by cases hk)⟩
    exact Own.of (L := []) ho ec.symm
  · have hlt := (Array.getElem?_eq_some_iff.1 hg).1
    have holds : ∀ j u, (Lib.byteCells L)[j]? = some u → w.cell? ((⟨g, 0, none⟩ : Addr).add j) = some u := fun j u hj => by
      have e : (⟨g, 0, none⟩ : Addr).add j = ⟨g, j, none⟩ := by unfold Addr.add; split <;> simp_all
      rw [e, cell_of_row w g j _ 5 (0, 0) hg]
      simpa using hj
    have hr := run_append_grow (P := Tryf.prog) w 22 ty 5 i0 _ Tryf.underlying22 hi hz0 ⟨g, 0, none⟩ L.length L.length (Lib.byteCells L) (by rw [hz1, Lib.byteCells_length, Nat.mul_one]) holds ⟨B, 0, none⟩ 2 2 _ (by rw [hz1]; rfl) hnews (by omega) (by omega)
      (growslice_fits (by omega) (by rw [hz2]; omega))
    refine ⟨_, _, hr, ?_, ((Below.refl _ w).drew).alloc (Nat.le_refl _) _⟩
    have hge := grownCap_ge w (L.length + 2) L.length 5
    have hcm : grownCap w (L.length + 2) L.length 5 ≤ maxLen := grownCap_le_maxLen w (L.length + 2) L.length 5 (by unfold maxLen; omega)
    refine ⟨by rw [Lib.byteCells_length]; omega, .inr ⟨w.heap.size, _, _, by rw [List.length_append]; rfl, Nat.le_refl _, heap_alloc_new w.drew _, by simpa using hge, hcm, ?_, ?_⟩⟩
    · simp only [Array.size_append, List.size_toArray, size_zeroCells, Lib.byteCells_length, List.length_cons, List.length_nil]
      simp [Value.cells]
      omega
    · simp only [Array.toList_append, List.append_assoc]
      rw [Lib.byteCells_append, ec, ← List.append_assoc]
      exact List.take_left' (by simp [Lib.byteCells_length])

theorem heap_two (w : World) (o1 o2 : Obj) : ((w.alloc o1).alloc o2).heap[w.heap.size + 1]? = some o2 := by
  have := heap_alloc_new (w.alloc o1) o2
  simpa using this

/-- at a step of a region that draws -/
theorem step_append_full {ops : Array Oper} {o : Oper} {a : Act} {w : World} {K : Act → World → Prop} {Q : Exit → Act → World → Prop} {E : Prop}
    (hg : o.guard = none) (s x : Operand) (hop : o.op = Op.call { callee := Callee.builtin Builtin.append, args := #[s, x], argTypes := #[22, 22] })
    (v : Value) (L : List UInt8) (B m n : Nat) (hs : a.eval s = v) (hxe : a.eval x = .slice (some ⟨B, 0, none⟩) 2 2) (hv : Full w v L) (hl : L.length ≤ 1048576) (hm : m < 256) (hn : n < 256)
    (hB : w.heap[B]? = some (.cells #[.int .u8 m, .int .u8 n] 5 (0, 0)))
    (h : ∀ v' w', Own w.heap.size w' v' (L ++ [m.toUInt8, n.toUInt8]) → Below w.heap.size w w' → K (a.put o.dst v') w') :
    if Region.wanted o (yielded ops a.tmps) = true then Oper.wp Tryf.prog o a w K Q else E := by
  have hw : Region.wanted o (yielded ops a.tmps) = true := by simp [Region.wanted, hg]
  rw [if_pos hw]
  obtain ⟨v', w', hr, h1, h2⟩ := run_append_full o.type w v L hv hl B m n hm hn hB
  unfold Oper.wp execOp
  simp only [hop, resolve, invoke, builtin, Sem.run_bind, Sem.run_pure, Result.andThen_ok, List.map_toArray, List.map_cons, List.map_nil, hs, hxe, hr]
  exact h v' w' h1 h2

/-- a call of a Go function at a step of a region that draws, by its contract -/
theorem step_call {P : Program} {ops : Array Oper} {o : Oper} {a : Act} {w : World} {K : Act → World → Prop} {Q : Exit → Act → World → Prop} {E : Prop}
    (hg : o.guard = none) (f : FuncId) (args : Array Value) (hrun : (execOp a.eval o).run P w = .ok (.enter f args) w) {Post : Ending → World → Prop} (hc : Calls P f args w Post)
    (h : ∀ e w', Post e w' → ∃ v, e = .returned v ∧ K (a.put o.dst v) w') :
    if Region.wanted o (yielded ops a.tmps) = true then Oper.wp P o a w K Q else E := by
  have hw : Region.wanted o (yielded ops a.tmps) = true := by simp [Region.wanted, hg]
  rw [if_pos hw]
  unfold Oper.wp
  rw [hrun, Oper.upon_enter]
  refine hc.mono fun e w' hp => ?_
  obtain ⟨v, rfl, hk⟩ := h e w' hp
  exact hk

set_option maxHeartbeats 2000000 in
set_option maxRecDepth 100000 in
theorem headAppend_any (k : Nat) (hk : k < 256) (f t : ByteArray) (hf : f.size ≤ 1048576) (ht : t.size ≤ 1048576) (tm : Nat) (htm : tm < 18446744073709551616) (v : Value) (L : List UInt8) (w : World) (hv : Full w v L) (hl : L.length ≤ 1048576) :
    Calls Tryf.prog 17 #[.agg #[.int .u8 k, .string f, .string t, .int .u64 tm], v, .int .u8 3] w fun e w' => ∃ v', e = .returned v' ∧ Own w.heap.size w' v' (L ++ Pl.wire k f.data.toList t.data.toList tm) ∧ Below w.heap.size w w' := by
  have huf := Lib.uvarint_length64 (x := f.size) (by omega)
  have hut := Lib.uvarint_length64 (x := t.size) (by omega)
  have hfl : f.data.toList.length = f.size := by simp
  have htl : t.data.toList.length = t.size := by simp
  go_enter Tryf.func17, Tryf.ntmps17
  go_upto_region 1 with fail
  go_cut [1] (fun s1 wx => Own (w.heap.size + 1) wx s1 (L ++ [3, k.toUInt8] ++ (Lib.uvarint f.size ++ f.data.toList)) ∧ Below (w.heap.size + 1) (w.alloc (.cells #[.int .u8 k, .string f, .string t, .int .u64 tm] 41)) wx)
  case first =>
    go_region_law (first
      | (refine step_append_full rfl (.tmp 7) (.tmp 11) ?_ v L (w.heap.size + 1) 3 k ?_ ?_ ?_ hl (by omega) hk ?_ ?_
         · rfl
         · rfl
         · rfl
         · exact (hv.alloc _).alloc _
         · exact heap_two w _ _
         intro v2 w2 hown2 hb2
         have c2 : w2.cell? ⟨w.heap.size, 1, none⟩ = some (.string f) := by
           rw [hb2.cell (by simp; omega)]
           simp)
      | (refine step_call rfl 24 #[v2, .string f] ?_ (appendName_any (w.heap.size + 1) v2 (L ++ [3, k.toUInt8]) f hf w2 ?_ ?_ ?_) ?_
         · go_simp
         · exact Own.base hown2 (by simp)
         · have := hb2.size
           simp at this
           omega
         · simp
           omega
         rintro e w3 ⟨v3, rfl, hown3, hb3⟩
         refine ⟨v3, rfl, ?_⟩))
    all_goals
      go_wp2_with fail
      go_meet
      refine ⟨hown3, ?_⟩
      exact ((((Below.refl _ _).alloc (by simp) _).drew).trans (hb2.mono (by simp))).trans hb3
  case rest =>
    obtain ⟨hown4, hb4⟩ := hcut
    have c4 : wc.cell? ⟨w.heap.size, 2, none⟩ = some (.string t) := by
      rw [hb4.cell (by simp)]
      simp
    have c5 : wc.cell? ⟨w.heap.size, 3, none⟩ = some (.int .u64 tm) := by
      rw [hb4.cell (by simp)]
      simp
    have hsz := hb4.size
    simp at hsz
    go_wp2_with fail
    go_region_law (first
      | (refine step_call rfl 24 #[u1, .string t] ?_ (appendName_any (w.heap.size + 1) u1 _ t ht wc.drew hown4 ?_ ?_) ?_
         · go_simp
         · exact hsz
         · simp
           omega
         rintro e w5 ⟨v5, rfl, hown5, hb5⟩
         refine ⟨v5, rfl, ?_⟩
         have c6 : w5.cell? ⟨w.heap.size, 3, none⟩ = some (.int .u64 tm) := by
           rw [hb5.cell (by simp)]
           exact c5)
      | (refine step_call rfl 25 #[v5, .int .u64 tm] ?_ (appendUvarint_own (w.heap.size + 1) tm htm v5 _ w5 hown5 ?_ ?_) ?_
         · go_simp
         · exact Nat.le_trans hsz hb5.size
         · simp
           omega
         rintro e w6 ⟨v6, rfl, hown6, hb6⟩
         refine ⟨v6, rfl, ?_⟩))
    all_goals
      go_wp2
      go_ret
      refine ⟨v6, rfl, ?_, ?_⟩
      · have e : L ++ Pl.wire k f.data.toList t.data.toList tm = L ++ [3, k.toUInt8] ++ (Lib.uvarint f.size ++ f.data.toList) ++ (Lib.uvarint t.size ++ t.data.toList) ++ Lib.uvarint tm := by
          unfold Pl.wire
          rw [hfl, htl]
          simp
        rw [e]
        exact Own.base hown6 (by omega)
      · exact ((((Below.refl _ w).alloc (Nat.le_refl _) _).trans (hb4.mono (by omega))).drew.trans (hb5.mono (by omega))).trans (hb6.mono (by omega))

end Go.Proofs.Qxb6616388aFmt
