/-
  hasString, flipASCII.
-/
import Derived.Test.Qxb6616414aDoorW2
import Derived.Test.Qxb6616414aDoorRow
import Derived.Laws.IdiomStrings
namespace Go.Proofs.Qxb6616414aDoor
open Go.RowKit

theorem info5 : (Tryd.prog.info? 5).map (fun i => (i.zero, i.size, i.bytes)) = some (some (.int .u8 0), 1, 1) := by kernel_rfl
theorem info9 : (Tryd.prog.info? 9).map (fun i => (i.zero, i.size, i.bytes)) = some (some (.string ⟨#[]⟩), 1, 16) := by kernel_rfl

/-- what strings are, plainly -/
def lists (L : List ByteArray) : List (List UInt8) := L.map fun b => b.data.toList

/-- a slice of strings of the call's own: nil, or a row that it fills -/
def Strs (w : World) (v : Value) (L : List ByteArray) : Prop :=
  (v = .slice none 0 0 ∧ L = []) ∨ ∃ g, v = .slice (some ⟨g, 0, none⟩) L.length L.length ∧ Row w g 9 (L.map Value.string)

theorem bytes_ext {a b : ByteArray} (h : a.data.toList = b.data.toList) : a = b := by
  cases a; cases b
  simp only [ByteArray.mk.injEq]
  exact Array.ext' h
theorem str_ne {a b : ByteArray} (h : a ≠ b) : (a.toList == b.toList) = false := by
  rw [Lib.toList_data, Lib.toList_data, beq_eq_false_iff_ne]
  exact fun e => h (bytes_ext e)

set_option maxHeartbeats 1000000 in
set_option maxRecDepth 100000 in
theorem has_any (v : Value) (L : List ByteArray) (s : ByteArray) (w : World) (h : Strs w v L) (hl : L.length ≤ 1048576) :
    Calls Tryd.prog 7 #[v, .string s] w fun e w' => e = .returned (.bool ((lists L).contains s.data.toList)) ∧ w' = w := by
  rcases h with ⟨rfl, rfl⟩ | ⟨g, rfl, hR⟩
  · go_enter Tryd.func7, Tryd.ntmps7
    go_wp2
    go_loop [5] (fun i => i = .int .i64 0) (fun _ => 0)
    case atStart => rfl
    case round =>
      subst hrel
      go_wp2
      go_ret
      exact ⟨rfl, rfl⟩
  · go_enter Tryd.func7, Tryd.ntmps7
    go_wp2
    go_loop [5] (fun i => ∃ k : Nat, i = .int .i64 k ∧ k ≤ L.length ∧ Hid ((lists (L.take k)).contains s.data.toList = false)) (fun i => L.length - (RowKit.intOf i).toNat)
    case atStart => exact ⟨0, rfl, Nat.zero_le _, show _ = _ by simp [lists]⟩
    case round =>
      obtain ⟨k, rfl, hk, hno⟩ := hrel
      by_cases hlt : k < L.length
      · obtain ⟨x, hx⟩ : ∃ x, L[k]? = some x := ⟨L[k], List.getElem?_eq_getElem hlt⟩
        have c := hR.cell k (.string x) (by simp [hx])
        by_cases hxs : x = s
        · have hin : (lists L).contains s.data.toList = true := by
            rw [List.contains_iff_mem]
            subst hxs
            exact List.mem_map.2 ⟨x, List.mem_of_getElem? hx, rfl⟩
          have HI : Hid _ := hin
          clear hin hx hno
          subst hxs
          go_wp2
          go_ret
          exact ⟨ret_bool (by have h := HI.out; simp at h; simp [h]), rfl⟩
        · have hb := str_ne hxs
          have hno2 : (lists (L.take (k + 1))).contains s.data.toList = false := by
            have h0 := hno.out
            unfold lists at h0 ⊢
            rw [List.take_add_one, hx, List.map_append, List.contains_append, h0]
            simp only [Bool.false_or, Option.toList_some, List.map_cons, List.map_nil]
            have hne : ¬ s.data.toList = x.data.toList := fun e => hxs (bytes_ext e.symm)
            simpa using hne
          have HN : Hid _ := hno2
          clear hno2 hx hno
          go_wp2
          go_round
          case rel => exact ⟨k + 1, by go_num, by omega, HN⟩
          case measure => simp [RowKit.intOf]; omega
      · have hk' : k = L.length := by omega
        subst hk'
        have HN : Hid ((lists L).contains s.data.toList = false) := by
          show _ = _
          have := hno.out
          rwa [List.take_length] at this
        clear hno
        go_wp2
        go_ret
        exact ⟨ret_bool (by have h := HN.out; simp at h; simp [h]), rfl⟩

def byteV (c : UInt8) : Value := .int .u8 (Pl.flipN c.toNat : Nat)

set_option maxHeartbeats 2000000 in
set_option maxRecDepth 100000 in
theorem flip_any (s : ByteArray) (w : World) (hs : s.size ≤ 1048576) :
    Calls Tryd.prog 8 #[.string s] w fun e w' => e = .returned (.string ⟨(Pl.flip s.data.toList).toArray⟩) ∧ Below w.heap.size w w' := by
  obtain ⟨i5, h5, z5, s5, b5⟩ := info_parts info5
  have hm := run_make (P := Tryd.prog) w 32 5 i5 _ Tryd.underlying32 h5 z5 .i64 .i64 s.size s.size (by omega) (Int.le_refl _) (by rw [b5]; omega) (by omega)
  have hsl : s.data.toList.length = s.size := by simp
  go_enter Tryd.func8, Tryd.ntmps8
  go_wp2
  clear hm
  go_loopw [4, 5] (fun i _ wr => ∃ k : Nat, i = .int .i64 k ∧ k ≤ s.size ∧ Row wr w.heap.size 5 (fill byteV (.int .u8 0) s.data.toList k) ∧ Below w.heap.size w wr) (fun i _ _ => s.size - (RowKit.intOf i).toNat)
  case atStart =>
    refine ⟨0, rfl, Nat.zero_le _, ?_, (Below.refl _ w).alloc (Nat.le_refl _) _⟩
    have := Row.new w (List.replicate s.size (.int .u8 0)) 5
    rw [← made_list] at this
    rw [fill_zero, hsl]
    simpa using this
  case round =>
    obtain ⟨k, rfl, hk, hR, hB⟩ := hrel
    by_cases hlt : k < s.size
    · have hx : s.data.toList[k]? = some s[k] := List.getElem?_eq_getElem (by simpa using hlt)
      have cK := hR.cell k _ (fill_at byteV _ s.data.toList k (by omega))
      have fK := hR.free k
      have zK := hR.lt
      have hc := s[k].toNat_lt
      have hset := fill_set byteV (.int .u8 0) s.data.toList k s[k] hx
      have HS : Hid _ := hset
      clear hx hset
      by_cases h1 : 65 ≤ s[k].toNat ∧ s[k].toNat ≤ 90
      · have e : byteV s[k] = .int .u8 ((s[k].toNat : Int) + 32) := by
          unfold byteV Pl.flipN
          rw [if_pos h1]
          rfl
        obtain ⟨x1, x2⟩ := h1
        have hset := HS.out
        rw [e] at hset
        have HS2 : Hid _ := hset
        clear e HS hset
        go_wp2
        go_roundw
        case rel => exact ⟨k + 1, by go_num, by omega, by rw [← HS2.out]; exact hR.set k _, hB.setCell (Nat.le_refl _) _⟩
        case measure => simp [RowKit.intOf]; omega
      · by_cases h2 : 97 ≤ s[k].toNat ∧ s[k].toNat ≤ 122
        · have e : byteV s[k] = .int .u8 ((s[k].toNat : Int) - 32) := by
            unfold byteV Pl.flipN
            rw [if_neg h1, if_pos h2]
            congr 1
            omega
          obtain ⟨x1, x2⟩ := h2
          have hset := HS.out
          rw [e] at hset
          have HS2 : Hid _ := hset
          have d1 : decide ((s[k].toNat : Int) ≤ 90) = false := decide_eq_false (by omega)
          clear e HS hset h1
          go_wp2
          go_roundw
          case rel => exact ⟨k + 1, by go_num, by omega, by rw [← HS2.out]; exact hR.set k _, hB.setCell (Nat.le_refl _) _⟩
          case measure => simp [RowKit.intOf]; omega
        · have e : byteV s[k] = .int .u8 (s[k].toNat : Int) := by
            unfold byteV Pl.flipN
            rw [if_neg h1, if_neg h2]
          have hset := HS.out
          rw [e] at hset
          have HS2 : Hid _ := hset
          clear e HS hset
          go_wp2
          all_goals first
            | (exfalso; omega)
            | skip
          all_goals go_roundw
          all_goals first
            | (simp [RowKit.intOf]; omega)
            | exact ⟨k + 1, by go_num, by omega, by rw [← HS2.out]; exact hR.set k _, hB.setCell (Nat.le_refl _) _⟩
    · have hk' : k = s.size := by omega
      subst hk'
      have hR2 : Row wr w.heap.size 5 (s.data.toList.map byteV) := by
        rw [← hsl, fill_all] at hR
        exact hR
      have hfl : (Pl.flip s.data.toList).length = s.size := by simp [Pl.flip]
      have hcv := run_convert_bytes_back (P := Tryd.prog) wr 32 9 5 ⟨w.heap.size, 0, none⟩ s.size (Pl.flip s.data.toList) Tryd.underlying32 Tryd.underlying5 Tryd.underlying9 (fun j hj => by
        have e : (⟨w.heap.size, 0, none⟩ : Addr).add j = ⟨w.heap.size, j, none⟩ := by unfold Addr.add; split <;> simp_all
        rw [e]
        refine hR2.cell j _ ?_
        have hj2 : j < s.data.toList.length := by omega
        rw [List.getElem?_map, List.getElem?_eq_getElem hj2]
        simp only [Option.map_some, byteV, Pl.flip, List.getElem_map, Pl.flipB_toNat])
      rw [hfl] at hcv
      clear hR hR2 hsl
      go_wp2
      go_ret
      exact ⟨rfl, hB⟩

end Go.Proofs.Qxb6616414aDoor
