/-
  normalizePercent: what it returns is the plain 'norm'.
-/
import Derived.Test.Qxb6616416aFmtW2
import Derived.Test.Qxb6616416aFmtRow
import Derived.Test.Qxb6616416aFmtPlain2
import Derived.Deep.Light
import Derived.Deep.QuietTactic
import Derived.BigQuiet
import Derived.BigRegion
import Derived.Deep.AppendSrc
import Derived.Deep.RegionLaw
import Derived.Lib.IndexLaws
import Derived.Lib.Split
namespace Go.Proofs.Qxb6616416aFmt
open Go.RowKit

theorem Tryf.info5 : (Tryf.prog.info? 5).map (fun i => (i.zero, i.size, i.bytes)) = some (some (.int .u8 0), 1, 1) := by kernel_rfl
def byteV (c : UInt8) : Value := .int .u8 (Pl.b2i c)

def SaidIB : Prop := ∀ (s : ByteArray) (c : Int) (w : World), Calls Tryf.prog 18 #[.string s, .int .u8 c] w fun e w' => e = .returned (.int .i64 (Lib.indexByte s.data.toList c.toNat.toUInt8)) ∧ w' = w

def normOut (L : List UInt8) : Value := match Pl.norm L with
  | none => .tuple #[.string ⟨#[]⟩, .bool false]
  | some t => .tuple #[.string ⟨t.toArray⟩, .bool true]
theorem normOut_none {L : List UInt8} (h : Pl.norm L = none) : normOut L = .tuple #[.string ⟨#[]⟩, .bool false] := by simp [normOut, h]
theorem normOut_some {L t : List UInt8} (h : Pl.norm L = some t) : normOut L = .tuple #[.string ⟨t.toArray⟩, .bool true] := by simp [normOut, h]

theorem bits_or (hi lo : Int) (a : 0 ≤ hi) (b : hi ≤ 15) (c : 0 ≤ lo) (d : lo ≤ 15) : bits .or .u8 (hi * 16) lo = hi * 16 + lo := by
  obtain ⟨m, rfl⟩ := Int.eq_ofNat_of_zero_le a
  obtain ⟨n, rfl⟩ := Int.eq_ofNat_of_zero_le c
  have key : ∀ m : Fin 16, ∀ n : Fin 16, bits .or .u8 ((m.val : Int) * 16) (n.val : Int) = (m.val : Int) * 16 + (n.val : Int) := by decide +kernel
  exact key ⟨m, by omega⟩ ⟨n, by omega⟩

theorem run_hex_at (m : Nat) (hm : m < 16) (w : World) :
    (Instr.index 9 (.string ⟨#[48, 49, 50, 51, 52, 53, 54, 55, 56, 57, 65, 66, 67, 68, 69, 70]⟩) (.int .u8 (m : Int))).run Tryf.prog w = .ok (.int .u8 (Pl.upN (m : Int))) w := by
  have key : ∀ m : Fin 16, (((⟨#[48, 49, 50, 51, 52, 53, 54, 55, 56, 57, 65, 66, 67, 68, 69, 70]⟩ : ByteArray)[m.val]'(m.isLt)).toNat : Int) = Pl.upN (m.val : Int) := by decide +kernel
  rw [run_index_string w 9 _ .u8 (m : Int) Tryf.underlying9, dif_pos ⟨by omega, by show (m : Int) < 16; omega⟩]
  simp only [Int.toNat_natCast]
  rw [key ⟨m, hm⟩]
theorem run_hex (w : World) (v : Int) (a : 0 ≤ v) (b : v ≤ 15) :
    (Instr.index 9 (.string ⟨#[48, 49, 50, 51, 52, 53, 54, 55, 56, 57, 65, 66, 67, 68, 69, 70]⟩) (.int .u8 v)).run Tryf.prog w = .ok (.int .u8 (Pl.upN v)) w := by
  obtain ⟨m, rfl⟩ := Int.eq_ofNat_of_zero_le a
  exact run_hex_at m (by omega) w

/-- the buffer's cells: what has been written, then zeros -/
def bufCells (out : List UInt8) (n : Nat) : List Value := out.map byteV ++ List.replicate (n - out.length) (.int .u8 0)
theorem buf_at (out : List UInt8) (n : Nat) (h : out.length < n) : (bufCells out n)[out.length]? = some (.int .u8 0) := by
  unfold bufCells
  rw [List.getElem?_append_right (by simp), List.length_map, Nat.sub_self, List.getElem?_replicate, if_pos (by omega)]
theorem buf_at' (out : List UInt8) (n j : Nat) (h : out.length + j < n) : (bufCells out n)[out.length + j]? = some (.int .u8 0) := by
  unfold bufCells
  rw [List.getElem?_append_right (by simp), List.length_map, Nat.add_sub_cancel_left, List.getElem?_replicate, if_pos (by omega)]
theorem buf_set (out : List UInt8) (n : Nat) (c : UInt8) (h : out.length < n) : (bufCells out n).set out.length (byteV c) = bufCells (out ++ [c]) n := by
  unfold bufCells
  rw [List.set_append_right _ _ (by simp)]
  obtain ⟨m, hm⟩ : ∃ m, n - out.length = m + 1 := ⟨n - out.length - 1, by omega⟩
  have e : n - (out ++ [c]).length = m := by simp; omega
  rw [hm, e]
  simp [List.replicate_succ]

theorem buf_sets (g n : Nat) : ∀ (news out : List UInt8) (w : World), Row w g 5 (bufCells out n) → out.length + news.length ≤ n → Row (w.setCells g out.length (news.map byteV)) g 5 (bufCells (out ++ news) n)
  | [], out, w, h, _ => by simpa [World.setCells] using h
  | c :: r, out, w, h, hl => by
    simp only [List.length_cons] at hl
    have h1 := h.set out.length (byteV c)
    rw [buf_set out n c (by omega)] at h1
    have h2 := buf_sets g n r (out ++ [c]) _ h1 (by simp; omega)
    simp only [List.length_append, List.length_cons, List.length_nil, List.append_assoc, List.singleton_append] at h2
    simpa [World.setCells] using h2
theorem below_sets {B g : Nat} (hg : B ≤ g) {w0 : World} : ∀ (vs : List Value) (o : Nat) (w : World), Below B w0 w → Below B w0 (w.setCells g o vs)
  | [], _, _, h => h
  | v :: r, o, _, h => below_sets hg r (o + 1) _ (h.setCell (p := ⟨g, o, none⟩) hg v)

/-- append(dst, s...) OF A STRING's BYTES, THERE IS ROOM, as one step of a region that draws. -/
theorem step_append_string {P : Program} {ops : Array Oper} {o : Oper} {a : Act} {w : World} {K : Act → World → Prop} {Q : Exit → Act → World → Prop} {E : Prop}
    (hg : o.guard = none) (s x : Operand) (t tx : TypeId) (hop : o.op = Op.call { callee := Callee.builtin Builtin.append, args := #[s, x], argTypes := #[t, tx] })
    (e : TypeId) (i : TypeInfo) (h1 : P.underlying t = some (.slice e)) (h2 : P.info? e = some i) (h4 : i.size = 1) (hx : P.underlying tx = some .string)
    (b n cap : Nat) (hs : a.eval s = .slice (some ⟨b, 0, none⟩) n cap) (str : ByteArray) (hxe : a.eval x = .string str) (hroom : n + str.size ≤ cap)
    (hspare : ∀ j, j < str.size → (w.cell? ⟨b, n + j, none⟩).isSome = true ∧ w.frozen? ⟨b, n + j, none⟩ = false)
    (hK : K (a.put o.dst (.slice (some ⟨b, 0, none⟩) (n + str.size) cap)) (w.setCells b n (byteCells str))) :
    if Region.wanted o (yielded ops a.tmps) = true then Oper.wp P o a w K Q else E := by
  have hw : Region.wanted o (yielded ops a.tmps) = true := by simp [Region.wanted, hg]
  rw [if_pos hw]
  have hsrc : Src P i.size tx (.string str) str.size (byteCells str) w := by rw [h4]; exact Src.ofString w hx str
  have hrun := run_append_room_src (P := P) w t tx o.type e i h1 h2 b 0 n cap (.string str) str.size (byteCells str) hsrc hroom
    (fun j hj => by rw [byteCells_length] at hj; rw [h4, Nat.zero_add, Nat.mul_one]; exact (hspare j hj).1) (fun j hj => by rw [byteCells_length] at hj; rw [h4, Nat.zero_add, Nat.mul_one]; exact (hspare j hj).2)
  rw [h4, Nat.zero_add, Nat.mul_one] at hrun
  unfold Oper.wp
  simp [execOp, hop, resolve, invoke, builtin, hs, hxe, hrun, Result.andThen]
  exact hK

theorem made_spare (w : World) (n : Nat) (j : Nat) (hj : j < n) : ((w.alloc (.cells (madeCells #[.int .u8 0] n) 5)).cell? ⟨w.heap.size, 0 + j, none⟩).isSome = true ∧ (w.alloc (.cells (madeCells #[.int .u8 0] n) 5)).frozen? ⟨w.heap.size, 0 + j, none⟩ = false := by
  have h := Row.new w (List.replicate n (.int .u8 0)) 5
  rw [← made_list] at h
  rw [Nat.zero_add]
  exact ⟨by rw [h.cell j (.int .u8 0) (by simp [hj])]; rfl, h.free j⟩

/-- what 'b' holds while the loop runs: nil (nothing changed yet), or the call's own buffer -/
def Buf (wr : World) (B n : Nat) (b : Value) (L out : List UInt8) (k : Nat) : Prop :=
  (b = .slice none 0 0 ∧ out = L.take k) ∨ ∃ g, b = .slice (some ⟨g, 0, none⟩) out.length n ∧ Row wr g 5 (bufCells out n) ∧ B ≤ g

set_option maxRecDepth 100000 in
set_option maxHeartbeats 1000000 in
theorem norm_loop (hIB : SaidIB) (s : ByteArray) (w : World) (hs : s.size ≤ 1048576) (o : Nat) (ho : Lib.indexByte s.data.toList 37 = (o : Int)) :
    Calls Tryf.prog 23 #[.string s] w fun e w' => e = .returned (normOut s.data.toList) ∧ Below w.heap.size w w' := by
  have HO : Hid (Lib.indexByte s.data.toList 37 = (o : Int)) := ho
  have hix := Lib.indexByte_some ho
  clear ho
  have holt : o < s.size := by
    have := (List.getElem?_eq_some_iff.1 hix.1).1
    simpa using this
  obtain ⟨i5, h5, z5, s5, b5⟩ := info_parts Tryf.info5
  have hnn := fun (w : World) (a : Option Addr) (n c : Nat) => run_neq_slice_nil_any (P := Tryf.prog) w 56 5 a n c 0 0 Tryf.underlying56
  have hen := fun (w : World) (a : Option Addr) (n c : Nat) => Lib.run_eql_slice_nil (P := Tryf.prog) w 56 5 a n c 0 0 Tryf.underlying56
  go_enter Tryf.func23, Tryf.ntmps23
  go_wp2_with fail
  refine (hIB _ _ _).mono ?_
  rintro e w ⟨rfl, rfl⟩
  have e37 : (37 : Int).toNat.toUInt8 = 37 := rfl
  rw [e37, HO.out]
  go_wp2_with fail
  go_loopw [5, 6] (fun b i wr => ∃ (k : Nat) (out : List UInt8), k ≤ s.size ∧ i = .int .i64 k ∧ Pl.Done s.data.toList k out ∧ Buf wr w.heap.size s.size b s.data.toList out k ∧ Below w.heap.size w wr) (fun _ i _ => s.size - (intOf i).toNat)
  case atStart =>
    exact ⟨o, s.data.toList.take o, by omega, rfl, Pl.done_start _ _ hix.2, .inl ⟨rfl, rfl⟩, Below.refl _ _⟩
  case round =>
    obtain ⟨k, out, hk, rfl, hD, hB, hb⟩ := hrel
    have hol := hD.2
    clear hix
    by_cases hlt : k < s.size
    · have hck : s.data.toList[k]? = some s[k] := by rw [List.getElem?_eq_getElem (by simpa using hlt)]; rfl
      have hck' : Hid _ := hck
      clear hck
      by_cases hc : (s[k].toNat : Int) = 37
      · have hck37 : Hid (s.data.toList[k]? = some 37) := by
          have := hck'.out
          rw [this]
          show some s[k] = some 37
          congr 1
          exact Pl.b2i_inj hc
        by_cases hsh : (s.size : Int) ≤ (k : Int) + 2
        · have HN : Hid _ := Pl.done_short hD hck37.out (by simp; omega)
          go_wp2
          go_light
          go_ret2
          refine ⟨?_, hb⟩
          rw [normOut_none HN.out]
          rfl
        · have l1 : k + 1 < s.size := by omega
          have l2 : k + 2 < s.size := by omega
          have hc1 : Hid (s.data.toList[k + 1]? = some s[k + 1]) := by
            show _ = _
            rw [List.getElem?_eq_getElem (by simpa using l1)]; rfl
          have hc2 : Hid (s.data.toList[k + 2]? = some s[k + 2]) := by
            show _ = _
            rw [List.getElem?_eq_getElem (by simpa using l2)]; rfl
          go_wp2_with fail
          refine (unhex_any _ _).mono ?_
          rintro e wr ⟨rfl, rfl⟩
          have r1 := Pl.hexVal_range s[k + 1].toNat
          have hhi : Hid (Pl.hexVal s[k + 1].toNat = Pl.hexVal (Pl.b2i s[k + 1])) := rfl
          have hq1 : Hid (Pl.isHex s[k + 1].toNat = Pl.isHex (Pl.b2i s[k + 1])) := rfl
          generalize Pl.hexVal s[k + 1].toNat = hi at r1 hhi ⊢
          generalize Pl.isHex s[k + 1].toNat = q1 at hq1 ⊢
          obtain ⟨r1a, r1b⟩ := r1
          go_wp2_with fail
          refine (unhex_any _ _).mono ?_
          rintro e wr ⟨rfl, rfl⟩
          have r2 := Pl.hexVal_range s[k + 2].toNat
          have hlo : Hid (Pl.hexVal s[k + 2].toNat = Pl.hexVal (Pl.b2i s[k + 2])) := rfl
          have hq2 : Hid (Pl.isHex s[k + 2].toNat = Pl.isHex (Pl.b2i s[k + 2])) := rfl
          generalize Pl.hexVal s[k + 2].toNat = lo at r2 hlo ⊢
          generalize Pl.isHex s[k + 2].toNat = q2 at hq2 ⊢
          obtain ⟨r2a, r2b⟩ := r2
          cases q1 with
          | false =>
            have HN : Hid _ := Pl.done_bad hD hck37.out hc1.out hc2.out (by unfold Pl.hexes; rw [← hq1.out]; rfl)
            go_wp2
            go_light
            go_ret2
            refine ⟨?_, hb⟩
            rw [normOut_none HN.out]
            rfl
          | true =>
            cases q2 with
            | false =>
              have HN : Hid _ := Pl.done_bad hD hck37.out hc1.out hc2.out (by unfold Pl.hexes; rw [← hq1.out, ← hq2.out]; rfl)
              go_wp2
              go_light
              go_ret2
              refine ⟨?_, hb⟩
              rw [normOut_none HN.out]
              rfl
            | true =>
              have HX : Hid (Pl.hexes s[k + 1] s[k + 2] = true) := by
                show _ = _
                unfold Pl.hexes; rw [← hq1.out, ← hq2.out]; rfl
              go_wp2_with fail
              rw [bits_or hi lo r1a r1b r2a r2b]
              have hcode : Hid (hi * 16 + lo = Pl.codeOf s[k + 1] s[k + 2]) := by
                show _ = _
                rw [hhi.out, hlo.out]; rfl
              have rc : 0 ≤ hi * 16 + lo ∧ hi * 16 + lo ≤ 255 := by omega
              generalize hi * 16 + lo = c at hcode rc ⊢
              obtain ⟨rc1, rc2⟩ := rc
              refine (unres_any _ _).mono ?_
              rintro e wr ⟨rfl, rfl⟩
              have hdec : Hid (Pl.unres c = Pl.unres (Pl.codeOf s[k + 1] s[k + 2])) := by
                show _ = _
                rw [hcode.out]
              generalize Pl.unres c = d at hdec ⊢
              rcases hB with ⟨rfl, hout⟩ | ⟨g, rfl, hrow, hg⟩
              · have HU : Hid _ := hout
                clear hout
                have hmk := fun (w : World) => run_make (P := Tryf.prog) w 56 5 i5 _ Tryf.underlying56 h5 z5 .i64 .i64 0 s.size (by omega) (by omega) (by rw [b5]; omega) (by omega)
                rw [s5] at hmk
                cases d with
                | true =>
                  go_wp2
                  go_quiet (fail)
                  have hb2 : Below w.heap.size w (wr.drewN nq) := ⟨hb.os, hb.tape, hb.output, hb.size, hb.block⟩
                  clear hb
                  generalize wr.drewN nq = w2 at hb2 ⊢
                  go_wp2
                  have hexs : (s.extract 0 k).size = k := by simp; omega
                  have hkl : Hid (out.length = k) := by
                    show _ = _
                    rw [HU.out, List.length_take]; simp; omega
                  have hfresh : Row ((w2.alloc (.cells (madeCells #[.int .u8 0] s.size) 5)).drew.setCells w2.heap.size 0 (byteCells (s.extract 0 k))) w2.heap.size 5 (bufCells out s.size) := by
                    have h0 : Row (w2.alloc (.cells (madeCells #[.int .u8 0] s.size) 5)).drew w2.heap.size 5 (bufCells [] s.size) := by
                      have h := Row.new w2 (List.replicate s.size (.int .u8 0)) 5
                      rw [← made_list] at h
                      have e : bufCells [] s.size = List.replicate s.size (.int .u8 0) := by simp [bufCells]
                      rw [e]
                      exact h.drew
                    have h1 := buf_sets w2.heap.size s.size out [] _ h0 (by simp; omega)
                    have e : byteCells (s.extract 0 k) = out.map byteV := by
                      rw [HU.out, ← Lib.extract_from_zero]
                      rfl
                    rw [e]
                    exact h1
                  have hbw : Below w.heap.size w ((w2.alloc (.cells (madeCells #[.int .u8 0] s.size) 5)).drew.setCells w2.heap.size 0 (byteCells (s.extract 0 k))) :=
                    below_sets hb2.size _ _ _ ((hb2.alloc hb2.size _).drew)
                  have hg : w.heap.size ≤ w2.heap.size := hb2.size
                  go_region_law (
                    refine step_append_string rfl (.tmp 95) (.tmp 98) 56 9 rfl 5 i5 Tryf.underlying56 h5 s5 Tryf.underlying9 w2.heap.size 0 s.size ?h10 (s.extract 0 k) ?h20 ?h30 ?h40 ?hK0
                    case h10 => simp [Act.eval]
                    case h20 => simp [Act.eval]
                    case h30 => omega
                    case h40 => exact fun j hj => made_spare w2 s.size j (by omega))
                  clear hb2 hexs
                  generalize ((w2.alloc (.cells (madeCells #[.int .u8 0] s.size) 5)).drew.setCells w2.heap.size 0 (byteCells (s.extract 0 k))) = w3 at hfresh hbw ⊢
                  generalize w2.heap.size = g at hfresh hg ⊢
                  have zg := hfresh.lt
                  have cg := hfresh.cell _ _ (buf_at out s.size (by omega))
                  have fg := hfresh.free out.length
                  rw [hkl.out] at cg fg
                  go_wp2
                  go_light
                  go_roundw
                  case rel =>
                    have hp : Pl.piece s[k + 1] s[k + 2] = [Pl.byteOf c] := by rw [Pl.piece_code hdec.out.symm, hcode.out]
                    refine ⟨k + 3, out ++ [Pl.byteOf c], by omega, by go_num, by rw [← hp]; exact Pl.done_esc hD hck37.out hc1.out hc2.out HX.out, .inr ⟨g, by simp [hkl.out], ?_, hg⟩, (hbw.setCell hg _).alloc (by simp; omega) _⟩
                    rw [← buf_set out s.size (Pl.byteOf c) (by omega)]
                    have e : byteV (Pl.byteOf c) = .int .u8 c := by unfold byteV; rw [Pl.b2i_byteOf c rc1 rc2]
                    rw [e, ← hkl.out]
                    exact (hfresh.set _ _).alloc _
                  case measure => simp [intOf]; omega
                | false =>
                  have hx1 := fun w => run_hex w hi r1a r1b
                  have hx2 := fun w => run_hex w lo r2a r2b
                  by_cases hsame : (s[k + 1].toNat : Int) = Pl.upN hi ∧ (s[k + 2].toNat : Int) = Pl.upN lo
                  · obtain ⟨hs1, hs2⟩ := hsame
                    have hs1b : ((s[k + 1].toNat : Int) != Pl.upN hi) = false := by simp [hs1]
                    have hs2b : ((s[k + 2].toNat : Int) != Pl.upN lo) = false := by simp [hs2]
                    have HS1 : Hid _ := hs1
                    have HS2 : Hid _ := hs2
                    clear hs1 hs2
                    go_wp2
                    go_quiet (fail)
                    have hb2 : Below w.heap.size w (wr.drewN nq) := ⟨hb.os, hb.tape, hb.output, hb.size, hb.block⟩
                    clear hb
                    generalize wr.drewN nq = w2 at hb2 ⊢
                    go_wp2
                    go_light
                    go_roundw
                    case rel =>
                      have hp : Pl.piece s[k + 1] s[k + 2] = [37, s[k + 1], s[k + 2]] := Pl.piece_same hdec.out.symm (by rw [← hhi.out]; exact HS1.out) (by rw [← hlo.out]; exact HS2.out)
                      refine ⟨k + 3, out ++ [37, s[k + 1], s[k + 2]], by omega, by go_num, by rw [← hp]; exact Pl.done_esc hD hck37.out hc1.out hc2.out HX.out, .inl ⟨rfl, ?_⟩, hb2⟩
                      rw [HU.out]
                      exact Pl.take3 hck37.out hc1.out hc2.out
                    case measure => simp [intOf]; omega
                  · clear hmk
                    have hmk := fun (w : World) => run_make (P := Tryf.prog) w 56 5 i5 _ Tryf.underlying56 h5 z5 .i64 .i64 0 s.size (by omega) (by omega) (by rw [b5]; omega) (by omega)
                    rw [s5] at hmk
                    by_cases hs1 : (s[k + 1].toNat : Int) = Pl.upN hi
                    · have hs1b : ((s[k + 1].toNat : Int) != Pl.upN hi) = false := by simp [hs1]
                      have hs2b : ((s[k + 2].toNat : Int) != Pl.upN lo) = true := by
                        have : ¬ (s[k + 2].toNat : Int) = Pl.upN lo := fun h => hsame ⟨hs1, h⟩
                        simp [this]
                      clear hs1 hsame
                      go_wp2
                      go_quiet (fail)
                      have hb2 : Below w.heap.size w (wr.drewN nq) := ⟨hb.os, hb.tape, hb.output, hb.size, hb.block⟩
                      clear hb
                      generalize wr.drewN nq = w2 at hb2 ⊢
                      go_wp2
                      have hexs : (s.extract 0 k).size = k := by simp; omega
                      have hkl : Hid (out.length = k) := by
                        show _ = _
                        rw [HU.out, List.length_take]; simp; omega
                      have hfresh : Row ((w2.alloc (.cells (madeCells #[.int .u8 0] s.size) 5)).drew.setCells w2.heap.size 0 (byteCells (s.extract 0 k))) w2.heap.size 5 (bufCells out s.size) := by
                        have h0 : Row (w2.alloc (.cells (madeCells #[.int .u8 0] s.size) 5)).drew w2.heap.size 5 (bufCells [] s.size) := by
                          have h := Row.new w2 (List.replicate s.size (.int .u8 0)) 5
                          rw [← made_list] at h
                          have e : bufCells [] s.size = List.replicate s.size (.int .u8 0) := by simp [bufCells]
                          rw [e]
                          exact h.drew
                        have h1 := buf_sets w2.heap.size s.size out [] _ h0 (by simp; omega)
                        have e : byteCells (s.extract 0 k) = out.map byteV := by
                          rw [HU.out, ← Lib.extract_from_zero]
                          rfl
                        rw [e]
                        exact h1
                      have hbw : Below w.heap.size w ((w2.alloc (.cells (madeCells #[.int .u8 0] s.size) 5)).drew.setCells w2.heap.size 0 (byteCells (s.extract 0 k))) :=
                        below_sets hb2.size _ _ _ ((hb2.alloc hb2.size _).drew)
                      have hg : w.heap.size ≤ w2.heap.size := hb2.size
                      go_region_law (
                        refine step_append_string rfl (.tmp 95) (.tmp 98) 56 9 rfl 5 i5 Tryf.underlying56 h5 s5 Tryf.underlying9 w2.heap.size 0 s.size ?h11 (s.extract 0 k) ?h21 ?h31 ?h41 ?hK1
                        case h11 => simp [Act.eval]
                        case h21 => simp [Act.eval]
                        case h31 => omega
                        case h41 => exact fun j hj => made_spare w2 s.size j (by omega))
                      clear hb2 hexs
                      generalize ((w2.alloc (.cells (madeCells #[.int .u8 0] s.size) 5)).drew.setCells w2.heap.size 0 (byteCells (s.extract 0 k))) = w3 at hfresh hbw ⊢
                      generalize w2.heap.size = g at hfresh hg ⊢
                      have zg := hfresh.lt
                      have cg := hfresh.cell _ _ (buf_at out s.size (by omega))
                      have fg := hfresh.free out.length
                      rw [hkl.out] at cg fg
                      have cg1 := hfresh.cell _ _ (buf_at' out s.size 1 (by omega))
                      have cg2 := hfresh.cell _ _ (buf_at' out s.size 2 (by omega))
                      have fg1 := hfresh.free (out.length + 1)
                      have fg2 := hfresh.free (out.length + 2)
                      rw [hkl.out] at cg1 cg2 fg1 fg2
                      have hroom : k + 3 ≤ s.size := by omega
                      go_wp2
                      go_region
                      go_wp2
                      go_light
                      go_roundw
                      case rel =>
                        have e1 : byteV 37 = .int .u8 37 := rfl
                        have u1 := Pl.upN_range hi r1a r1b
                        have u2 := Pl.upN_range lo r2a r2b
                        have e2 : byteV (Pl.byteOf (Pl.upN hi)) = .int .u8 (Pl.upN hi) := by unfold byteV; rw [Pl.b2i_byteOf _ (by omega) (by omega)]
                        have e3 : byteV (Pl.byteOf (Pl.upN lo)) = .int .u8 (Pl.upN lo) := by unfold byteV; rw [Pl.b2i_byteOf _ (by omega) (by omega)]
                        have hp : Pl.piece s[k + 1] s[k + 2] = [37, Pl.byteOf (Pl.upN hi), Pl.byteOf (Pl.upN lo)] := by rw [Pl.piece_keep hdec.out.symm, ← hhi.out, ← hlo.out]
                        have hset := buf_sets g s.size [37, Pl.byteOf (Pl.upN hi), Pl.byteOf (Pl.upN lo)] out w3 hfresh (by simp; omega)
                        simp only [List.map_cons, List.map_nil, World.setCells, e1, e2, e3] at hset
                        rw [hkl.out] at hset
                        refine ⟨k + 3, out ++ [37, Pl.byteOf (Pl.upN hi), Pl.byteOf (Pl.upN lo)], by omega, by go_num, by rw [← hp]; exact Pl.done_esc hD hck37.out hc1.out hc2.out HX.out, .inr ⟨g, by simp [hkl.out], ?_, hg⟩, ((((hbw.setCell hg _).setCell hg _).setCell hg _).alloc (by simp; omega) _).drew⟩
                        exact (hset.alloc _).drew
                      case measure => simp [intOf]; omega
                    · have hs1b : ((s[k + 1].toNat : Int) != Pl.upN hi) = true := by simp [hs1]
                      clear hs1 hsame
                      go_wp2
                      go_quiet (fail)
                      have hb2 : Below w.heap.size w (wr.drewN nq) := ⟨hb.os, hb.tape, hb.output, hb.size, hb.block⟩
                      clear hb
                      generalize wr.drewN nq = w2 at hb2 ⊢
                      go_wp2
                      have hexs : (s.extract 0 k).size = k := by simp; omega
                      have hkl : Hid (out.length = k) := by
                        show _ = _
                        rw [HU.out, List.length_take]; simp; omega
                      have hfresh : Row ((w2.alloc (.cells (madeCells #[.int .u8 0] s.size) 5)).drew.setCells w2.heap.size 0 (byteCells (s.extract 0 k))) w2.heap.size 5 (bufCells out s.size) := by
                        have h0 : Row (w2.alloc (.cells (madeCells #[.int .u8 0] s.size) 5)).drew w2.heap.size 5 (bufCells [] s.size) := by
                          have h := Row.new w2 (List.replicate s.size (.int .u8 0)) 5
                          rw [← made_list] at h
                          have e : bufCells [] s.size = List.replicate s.size (.int .u8 0) := by simp [bufCells]
                          rw [e]
                          exact h.drew
                        have h1 := buf_sets w2.heap.size s.size out [] _ h0 (by simp; omega)
                        have e : byteCells (s.extract 0 k) = out.map byteV := by
                          rw [HU.out, ← Lib.extract_from_zero]
                          rfl
                        rw [e]
                        exact h1
                      have hbw : Below w.heap.size w ((w2.alloc (.cells (madeCells #[.int .u8 0] s.size) 5)).drew.setCells w2.heap.size 0 (byteCells (s.extract 0 k))) :=
                        below_sets hb2.size _ _ _ ((hb2.alloc hb2.size _).drew)
                      have hg : w.heap.size ≤ w2.heap.size := hb2.size
                      go_region_law (
                        refine step_append_string rfl (.tmp 95) (.tmp 98) 56 9 rfl 5 i5 Tryf.underlying56 h5 s5 Tryf.underlying9 w2.heap.size 0 s.size ?h12 (s.extract 0 k) ?h22 ?h32 ?h42 ?hK2
                        case h12 => simp [Act.eval]
                        case h22 => simp [Act.eval]
                        case h32 => omega
                        case h42 => exact fun j hj => made_spare w2 s.size j (by omega))
                      clear hb2 hexs
                      generalize ((w2.alloc (.cells (madeCells #[.int .u8 0] s.size) 5)).drew.setCells w2.heap.size 0 (byteCells (s.extract 0 k))) = w3 at hfresh hbw ⊢
                      generalize w2.heap.size = g at hfresh hg ⊢
                      have zg := hfresh.lt
                      have cg := hfresh.cell _ _ (buf_at out s.size (by omega))
                      have fg := hfresh.free out.length
                      rw [hkl.out] at cg fg
                      have cg1 := hfresh.cell _ _ (buf_at' out s.size 1 (by omega))
                      have cg2 := hfresh.cell _ _ (buf_at' out s.size 2 (by omega))
                      have fg1 := hfresh.free (out.length + 1)
                      have fg2 := hfresh.free (out.length + 2)
                      rw [hkl.out] at cg1 cg2 fg1 fg2
                      have hroom : k + 3 ≤ s.size := by omega
                      go_wp2
                      go_region
                      go_wp2
                      go_light
                      go_roundw
                      case rel =>
                        have e1 : byteV 37 = .int .u8 37 := rfl
                        have u1 := Pl.upN_range hi r1a r1b
                        have u2 := Pl.upN_range lo r2a r2b
                        have e2 : byteV (Pl.byteOf (Pl.upN hi)) = .int .u8 (Pl.upN hi) := by unfold byteV; rw [Pl.b2i_byteOf _ (by omega) (by omega)]
                        have e3 : byteV (Pl.byteOf (Pl.upN lo)) = .int .u8 (Pl.upN lo) := by unfold byteV; rw [Pl.b2i_byteOf _ (by omega) (by omega)]
                        have hp : Pl.piece s[k + 1] s[k + 2] = [37, Pl.byteOf (Pl.upN hi), Pl.byteOf (Pl.upN lo)] := by rw [Pl.piece_keep hdec.out.symm, ← hhi.out, ← hlo.out]
                        have hset := buf_sets g s.size [37, Pl.byteOf (Pl.upN hi), Pl.byteOf (Pl.upN lo)] out w3 hfresh (by simp; omega)
                        simp only [List.map_cons, List.map_nil, World.setCells, e1, e2, e3] at hset
                        rw [hkl.out] at hset
                        refine ⟨k + 3, out ++ [37, Pl.byteOf (Pl.upN hi), Pl.byteOf (Pl.upN lo)], by omega, by go_num, by rw [← hp]; exact Pl.done_esc hD hck37.out hc1.out hc2.out HX.out, .inr ⟨g, by simp [hkl.out], ?_, hg⟩, ((((hbw.setCell hg _).setCell hg _).setCell hg _).alloc (by simp; omega) _).drew⟩
                        exact (hset.alloc _).drew
                      case measure => simp [intOf]; omega
              · cases d with
                | true =>
                  go_wp2
                  go_quiet (fail)
                  have hb2 : Below w.heap.size w (wr.drewN nq) := ⟨hb.os, hb.tape, hb.output, hb.size, hb.block⟩
                  have hrow2 : Row (wr.drewN nq) g 5 (bufCells out s.size) := hrow
                  clear hb hrow
                  generalize wr.drewN nq = w2 at hb2 hrow2 ⊢
                  have zg := hrow2.lt
                  have cg := hrow2.cell _ _ (buf_at out s.size (by omega))
                  have fg := hrow2.free out.length
                  go_wp2
                  go_light
                  go_roundw
                  case rel =>
                    have hp : Pl.piece s[k + 1] s[k + 2] = [Pl.byteOf c] := by rw [Pl.piece_code hdec.out.symm, hcode.out]
                    refine ⟨k + 3, out ++ [Pl.byteOf c], by omega, by go_num, by rw [← hp]; exact Pl.done_esc hD hck37.out hc1.out hc2.out HX.out, .inr ⟨g, by simp, ?_, hg⟩, (hb2.setCell hg _).alloc (by simp; omega) _⟩
                    rw [← buf_set out s.size (Pl.byteOf c) (by omega)]
                    have e : byteV (Pl.byteOf c) = .int .u8 c := by unfold byteV; rw [Pl.b2i_byteOf c rc1 rc2]
                    rw [e]
                    exact (hrow2.set _ _).alloc _
                  case measure => simp [intOf]; omega
                | false =>
                  go_wp2
                  go_quiet (fail)
                  have hb2 : Below w.heap.size w (wr.drewN nq) := ⟨hb.os, hb.tape, hb.output, hb.size, hb.block⟩
                  have hrow2 : Row (wr.drewN nq) g 5 (bufCells out s.size) := hrow
                  clear hb hrow
                  generalize wr.drewN nq = w2 at hb2 hrow2 ⊢
                  have zg := hrow2.lt
                  have cg := hrow2.cell _ _ (buf_at out s.size (by omega))
                  have cg1 := hrow2.cell _ _ (buf_at' out s.size 1 (by omega))
                  have cg2 := hrow2.cell _ _ (buf_at' out s.size 2 (by omega))
                  have fg := hrow2.free out.length
                  have fg1 := hrow2.free (out.length + 1)
                  have fg2 := hrow2.free (out.length + 2)
                  have hx1 := fun w => run_hex w hi r1a r1b
                  have hx2 := fun w => run_hex w lo r2a r2b
                  have hroom : out.length + 3 ≤ s.size := by omega
                  go_wp2
                  go_region
                  go_wp2
                  go_light
                  go_roundw
                  case rel =>
                    have e1 : byteV 37 = .int .u8 37 := rfl
                    have u1 := Pl.upN_range hi r1a r1b
                    have u2 := Pl.upN_range lo r2a r2b
                    have e2 : byteV (Pl.byteOf (Pl.upN hi)) = .int .u8 (Pl.upN hi) := by unfold byteV; rw [Pl.b2i_byteOf _ (by omega) (by omega)]
                    have e3 : byteV (Pl.byteOf (Pl.upN lo)) = .int .u8 (Pl.upN lo) := by unfold byteV; rw [Pl.b2i_byteOf _ (by omega) (by omega)]
                    have hp : Pl.piece s[k + 1] s[k + 2] = [37, Pl.byteOf (Pl.upN hi), Pl.byteOf (Pl.upN lo)] := by rw [Pl.piece_keep hdec.out.symm, ← hhi.out, ← hlo.out]
                    have hset := buf_sets g s.size [37, Pl.byteOf (Pl.upN hi), Pl.byteOf (Pl.upN lo)] out w2 hrow2 (by simp; omega)
                    simp only [List.map_cons, List.map_nil, World.setCells, e1, e2, e3] at hset
                    refine ⟨k + 3, out ++ [37, Pl.byteOf (Pl.upN hi), Pl.byteOf (Pl.upN lo)], by omega, by go_num, by rw [← hp]; exact Pl.done_esc hD hck37.out hc1.out hc2.out HX.out, .inr ⟨g, by simp, ?_, hg⟩, ((((hb2.setCell hg _).setCell hg _).setCell hg _).alloc (by simp; omega) _).drew⟩
                    exact (hset.alloc _).drew
                  case measure => simp [intOf]; omega
      · rcases hB with ⟨rfl, hout⟩ | ⟨g, rfl, hrow, hg⟩
        · have HU : Hid _ := hout
          clear hout
          go_wp2
          go_light
          go_roundw
          case rel => exact ⟨k + 1, out ++ [s[k]], by omega, by go_num, Pl.done_char hD hck'.out (fun e => hc (by rw [e]; rfl)), .inl ⟨rfl, by rw [HU.out]; exact Pl.take1 hck'.out⟩, hb⟩
          case measure => simp [intOf]; omega
        · have zg := hrow.lt
          have cg := hrow.cell _ _ (buf_at out s.size (by omega))
          have fg := hrow.free out.length
          go_wp2
          go_light
          go_roundw
          case rel =>
            refine ⟨k + 1, out ++ [s[k]], by omega, by go_num, Pl.done_char hD hck'.out (fun e => hc (by rw [e]; rfl)), .inr ⟨g, by simp, ?_, hg⟩, (hb.setCell hg _).alloc (by simp; omega) _⟩
            rw [← buf_set out s.size s[k] (by omega)]
            exact (hrow.set _ _).alloc _
          case measure => simp [intOf]; omega
    · rcases hB with ⟨rfl, hout⟩ | ⟨g, rfl, hrow, hg⟩
      · have HU : Hid _ := hout
        clear hout
        go_wp2
        go_light
        go_ret2
        refine ⟨?_, hb⟩
        rw [normOut_some (Pl.done_end hD (by simp; omega)), HU.out, List.take_of_length_le (by simp; omega)]
        rfl
      · have hcv : (convert 56 9 (.slice (some ⟨g, 0, none⟩) out.length s.size)).run Tryf.prog wr = .ok (.string ⟨out.toArray⟩) wr :=
          run_convert_bytes_back wr 56 9 5 ⟨g, 0, none⟩ s.size out Tryf.underlying56 Tryf.underlying5 Tryf.underlying9 (fun j hj => by
            have := hrow.cell j (byteV out[j]) (by unfold bufCells; rw [List.getElem?_append_left (by simpa using hj)]; simp [List.getElem?_map, List.getElem?_eq_getElem hj])
            rw [Addr.add_lit, Nat.zero_add]
            exact this)
        go_wp2
        go_light
        go_ret2
        refine ⟨?_, hb⟩
        rw [normOut_some (Pl.done_end hD (by simp; omega))]
        rfl

set_option maxHeartbeats 400000 in
theorem norm_none (hIB : SaidIB) (s : ByteArray) (w : World) (ho : Lib.indexByte s.data.toList 37 = -1) :
    Calls Tryf.prog 23 #[.string s] w fun e w' => e = .returned (normOut s.data.toList) ∧ Below w.heap.size w w' := by
  have HO : Hid (Lib.indexByte s.data.toList 37 = -1) := ho
  have HN : Hid (Pl.norm s.data.toList = some s.data.toList) := Pl.done_none _ (fun j => Lib.indexByte_none ho j)
  clear ho
  go_enter Tryf.func23, Tryf.ntmps23
  go_wp2_with fail
  refine (hIB _ _ _).mono ?_
  rintro e w ⟨rfl, rfl⟩
  have e37 : (37 : Int).toNat.toUInt8 = 37 := rfl
  rw [e37, HO.out]
  go_wp2
  go_ret2
  refine ⟨?_, Below.refl _ _⟩
  rw [normOut_some HN.out]
  rfl

theorem norm_any (hIB : SaidIB) (s : ByteArray) (w : World) (hs : s.size ≤ 1048576) :
    Calls Tryf.prog 23 #[.string s] w fun e w' => e = .returned (normOut s.data.toList) ∧ Below w.heap.size w w' := by
  by_cases h : Lib.indexByte s.data.toList 37 = -1
  · exact norm_none hIB s w h
  · have := Lib.indexByte_ge s.data.toList 37
    obtain ⟨o, ho⟩ := Int.eq_ofNat_of_zero_le (a := Lib.indexByte s.data.toList 37) (by omega)
    exact norm_loop hIB s w hs o ho

end Go.Proofs.Qxb6616416aFmt
