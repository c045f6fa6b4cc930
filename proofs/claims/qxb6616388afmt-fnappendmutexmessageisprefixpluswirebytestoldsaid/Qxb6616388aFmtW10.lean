/-
  zzCloneBytes, zzEncode, the first law's bound.
-/
import Derived.Test.Qxb6616388aFmtW8
import Derived.Laws.CopyOwn
namespace Go.Proofs.Qxb6616388aFmt
open Go.RowKit Go.Extern.Stop Go.Stop Go.Extern

/-- a slice of bytes that came in -/
def Arg (w : World) (v : Value) (L : List UInt8) : Prop :=
  (v = .slice none 0 0 ∧ L = []) ∨ ∃ ad c, v = .slice (some ad) L.length c ∧ L.length ≤ c ∧ c ≤ maxLen ∧ ∀ (j : Nat) x, L[j]? = some x → w.cell? (ad.add j) = some (.int .u8 x.toNat)

theorem Full.arg {w : World} {v : Value} {L : List UInt8} (h : Full w v L) (hl : L.length ≤ maxLen) : Arg w v L := by
  rcases h with ⟨rfl, rfl⟩ | ⟨g, rfl, hg⟩
  · exact .inl ⟨rfl, rfl⟩
  · refine .inr ⟨⟨g, 0, none⟩, _, rfl, Nat.le_refl _, hl, fun j x hx => ?_⟩
    have e : (⟨g, 0, none⟩ : Addr).add j = ⟨g, j, none⟩ := by unfold Addr.add; split <;> simp_all
    rw [e, cell_of_row w g _ _ 5 (0, 0) hg]
    simp [Lib.byteCells, hx]

set_option maxHeartbeats 1000000 in
set_option maxRecDepth 100000 in
theorem clone_any (v : Value) (L : List UInt8) (w : World) (h : Arg w v L) (hl : L.length ≤ 1048576) :
    Calls Tryf.prog 6 #[v] w fun e w' => ∃ v', e = .returned v' ∧ Full w' v' L ∧ Below w.heap.size w w' := by
  have hq := fun (w : World) (a : Option Addr) (n c : Nat) => Lib.run_eql_slice_nil (P := Tryf.prog) w 22 5 a n c 0 0 Tryf.underlying22
  rcases h with ⟨rfl, rfl⟩ | ⟨ad, c, rfl, hc1, hc2, hcell⟩
  · go_enter Tryf.func6, Tryf.ntmps6
    go_wp2
    go_ret
    exact ⟨_, rfl, .inl ⟨rfl, rfl⟩, Below.refl _ _⟩
  · obtain ⟨i5, h5, z5, s5, b5⟩ := info_parts info5
    have hm := run_make (P := Tryf.prog) w 22 5 i5 _ Tryf.underlying22 h5 z5 .i64 .i64 L.length L.length (by omega) (Int.le_refl _) (by rw [b5]; omega) (by omega)
    have hcl : (Lib.byteCells L).length = L.length := Lib.byteCells_length L
    have hcp : (Builtin.copy_ #[22, 22] 3 #[.slice (some ⟨w.heap.size, 0, none⟩) L.length L.length, .slice (some ad) L.length c]).run Tryf.prog (w.alloc (.cells (madeCells #[.int .u8 0] L.length) 5)) =
        .ok (goInt L.length) ((w.alloc (.cells (madeCells #[.int .u8 0] L.length) 5)).setRow w.heap.size (Lib.byteCells L).toArray) := by
      have := run_copy_row (P := Tryf.prog) (w.alloc (.cells (madeCells #[.int .u8 0] L.length) 5)) 22 22 3 5 w.heap.size 0 L.length L.length ad L.length c (madeCells #[.int .u8 0] L.length) 5 (Lib.byteCells L) Tryf.underlying22 (by rw [h5]; simp [s5]) (heap_alloc_new w _)
        (by rw [hcl]; simp) (fun j u hj => by
          simp only [Lib.byteCells, List.getElem?_map, Option.map_eq_some_iff] at hj
          obtain ⟨x, hx, rfl⟩ := hj
          exact cell_kept (hcell j x hx) _) (by rw [hcl, size_madeCells]; omega) (fun u hu => by
          obtain ⟨_, _, rfl⟩ := List.mem_map.1 hu
          rfl)
      rw [hcl] at this
      rw [this]
      have hd : List.drop (0 + L.length) (madeCells #[.int .u8 0] L.length).toList = [] := List.drop_of_length_le (by rw [Array.length_toList, size_madeCells]; omega)
      rw [hd, List.append_nil, List.take_zero, List.nil_append]
    clear hcell
    go_enter Tryf.func6, Tryf.ntmps6
    go_wp2
    clear hcp hm hq
    go_ret
    refine ⟨_, rfl, .inr ⟨w.heap.size, rfl, ?_⟩, below_setRow ((Below.refl _ w).alloc (Nat.le_refl _) _) (Nat.le_refl _) _⟩
    exact setRow_heap _ _ _ _ _ _ (heap_alloc_new w _)

set_option maxHeartbeats 1000000 in
set_option maxRecDepth 100000 in
theorem encode_any (k tm : Nat) (f t : ByteArray) (w : World) (hk : k < 256) (hf : f.size ≤ 1048576) (ht : t.size ≤ 1048576) (htm : tm < 18446744073709551616) :
    Calls Tryf.prog 10 #[.int .i64 k, .string f, .string t, .int .u64 tm] w fun e w' => ∃ v, e = .returned v ∧ Own w.heap.size w' v (Pl.wire k f.data.toList t.data.toList tm) ∧ Below w.heap.size w w' := by
  obtain ⟨i0, hi, hz0, hz1, hz2⟩ := info_parts info5
  have u1 := Lib.uvarint_length64 (x := f.size) (by omega)
  have u2 := Lib.uvarint_length64 (x := t.size) (by omega)
  have hfl : f.data.toList.length = f.size := by simp
  have htl : t.data.toList.length = t.size := by simp
  have hk2 : (k : Int) % 256 = k := by omega
  have own0 : Own w.heap.size (w.alloc (.cells #[.int .u8 3, .int .u8 k] 5)) (.slice (some ⟨w.heap.size, 0, none⟩) 2 2) [3, k.toUInt8] := by
    have ec : Lib.byteCells [3, k.toUInt8] = [Value.int .u8 3, .int .u8 (k : Int)] := by
      simp [Lib.byteCells]
      omega
    refine ⟨rfl, .inr ⟨w.heap.size, 2, _, rfl, Nat.le_refl _, heap_alloc_new w _, Nat.le_refl _, by decide, rfl, ?_⟩⟩
    rw [ec]
    rfl
  have hb0 := (Below.refl w.heap.size w).alloc (Nat.le_refl _) (.cells #[.int .u8 3, .int .u8 k] 5)
  go_enter Tryf.func10, Tryf.ntmps10
  go_wp2_with fail
  refine (zzUvarint_own w.heap.size f.size (by omega) _ _ _ own0 hb0.size (by simp)).mono ?_
  rintro e w1 ⟨v1, rfl, own1, hb1⟩
  have hb01 := hb0.trans hb1
  go_wp2_with (at_builtin; refine Lib.wpList_append_own_string _ rfl _ _ 22 9 rfl w.heap.size 5 i0 Tryf.underlying22 Tryf.underlying9 hi hz0 hz1 hz2 _ _ _ rfl own1 f rfl ?c3 ?c4 ?c5 ?_)
  case c3 => unfold maxLen; simp; omega
  case c4 => simp; omega
  case c5 => exact hb01.size
  intro v2 w2 own2' hgrow2 _
  have hb02 := hb01.grown hgrow2 hb01.size (fun k hk => (own1.lt k hk).1)
  have own2 := Own.of own2' (strCells_eq f)
  go_wp2_with fail
  refine (zzUvarint_own w.heap.size t.size (by omega) _ _ _ own2 hb02.size (by simp; omega)).mono ?_
  rintro e w3 ⟨v3, rfl, own3, hb3⟩
  have hb03 := hb02.trans hb3
  go_wp2_with (at_builtin; refine Lib.wpList_append_own_string _ rfl _ _ 22 9 rfl w.heap.size 5 i0 Tryf.underlying22 Tryf.underlying9 hi hz0 hz1 hz2 _ _ _ rfl own3 t rfl ?d3 ?d4 ?d5 ?_)
  case d3 => unfold maxLen; simp; omega
  case d4 => simp; omega
  case d5 => exact hb03.size
  intro v4 w4 own4' hgrow4 _
  have hb04 := hb03.grown hgrow4 hb03.size (fun k hk => (own3.lt k hk).1)
  have own4 := Own.of own4' (strCells_eq t)
  go_wp2_with fail
  refine (zzUvarint_own w.heap.size tm htm _ _ _ own4 hb04.size (by simp; omega)).mono ?_
  rintro e w5 ⟨v5, rfl, own5, hb5⟩
  go_wp2
  go_ret
  refine ⟨v5, rfl, ?_, hb04.trans hb5⟩
  have e : Pl.wire k f.data.toList t.data.toList tm = [3, k.toUInt8] ++ Lib.uvarint f.size ++ f.data.toList ++ Lib.uvarint t.size ++ t.data.toList ++ Lib.uvarint tm := by
    unfold Pl.wire
    rw [hfl, htl]
    simp
  rw [e]
  have e2 : ∀ {a b}, a = b → Own w.heap.size w5 v5 a → Own w.heap.size w5 v5 b := fun h x => h ▸ x
  exact e2 (by simp) own5

set_option maxHeartbeats 1000000 in
set_option maxRecDepth 100000 in
theorem bytes3_any (ad : Option Addr) (n c : Nat) (k : Int) (f t : ByteArray) (m : Int) (w : World) (h0 : n ≤ maxLen) (h1 : f.size ≤ maxLen) (h2 : t.size ≤ maxLen) :
    Calls Tryf.prog 5 #[.slice ad n c, .int .i64 k, .string f, .string t, .int .u64 m] w fun e w' => e = .returned (.bool (decide (n + f.size + t.size ≤ 1048576))) ∧ w' = w := by
  unfold maxLen at h0 h1 h2
  go_enter Tryf.func5, Tryf.ntmps5
  go_wp2
  all_goals
    go_ret
    exact ⟨ret_bool (by rw [Bool.eq_iff_iff]; simp; try omega), rfl⟩

end Go.Proofs.Qxb6616388aFmt
