/-
  The first law's bounds on what came in.
-/
import Derived.Test.Qxb6616414aDoorW7
namespace Go.Proofs.Qxb6616414aDoor
open Go.RowKit Go.Shelf

def Bd2 (name : ByteArray) (A B : List ByteArray) : Prop := name.size ≤ 1048576 ∧ (A.length ≤ 1048576 ∧ ∀ x ∈ A, x.size ≤ 1048576) ∧ B.length ≤ 1048576 ∧ ∀ x ∈ B, x.size ≤ 1048576

theorem ArgS.cells {w : World} {ad : Option Addr} {c : Nat} {L : List ByteArray} (h : ArgS w (.slice ad L.length c) L) : ∀ (j : Nat) x, L[j]? = some x → ∃ b off, ad = some ⟨b, off, none⟩ ∧ w.cell? ⟨b, off + j, none⟩ = some (.string x) := fun j x hx => by
  rcases h with ⟨_, rfl⟩ | ⟨rfl, _⟩ | ⟨b, off, c', e, _, _, hc⟩
  · simp at hx
  · simp at hx
  · cases e
    exact ⟨b, off, rfl, hc j x hx⟩

theorem all_snoc {L : List ByteArray} {k : Nat} {x : ByteArray} (hx : L[k]? = some x) (h : ∀ y ∈ L.take k, y.size ≤ 1048576) (x1 : x.size ≤ 1048576) : ∀ y ∈ L.take (k + 1), y.size ≤ 1048576 := by
  intro y hy
  rw [List.take_add_one, hx] at hy
  rcases List.mem_append.1 hy with hy | hy
  · exact h y hy
  · simp at hy
    subst hy
    exact x1

set_option maxHeartbeats 4000000 in
set_option maxRecDepth 100000 in
theorem bytes5_any (name : ByteArray) (v u : Value) (A B : List ByteArray) (w : World) (h : ArgS w v A) (h' : ArgS w u B) (hn : name.size ≤ maxLen) :
    Calls Tryd.prog 5 #[.string name, v, u] w fun e w' => Within (Bd2 name A B) e ∧ w' = w := by
  unfold maxLen at hn
  obtain ⟨ad, c, rfl, hm⟩ := h.len
  obtain ⟨ad', c', rfl, hm'⟩ := h'.len
  unfold maxLen at hm hm'
  have hcell := h.cells
  have hcell' := h'.cells
  clear h h'
  by_cases b1 : name.size ≤ 1048576
  · by_cases b2 : name.size + A.length ≤ 1048576
    · go_enter Tryd.func5, Tryd.ntmps5
      go_wp2
      go_loop [7, 8] (fun z j => ∃ (zz k : Nat), z = .int .i64 zz ∧ zz ≤ 1048576 ∧ j = .int .i64 k ∧ k ≤ A.length ∧ Hid (∀ x ∈ A.take k, x.size ≤ 1048576)) (fun _ j => A.length - (RowKit.intOf j).toNat)
      case atStart => exact ⟨name.size + A.length, 0, by simp, b2, rfl, Nat.zero_le _, fun x hx => by simp at hx⟩
      case round =>
        obtain ⟨zz, k, rfl, hzz, rfl, hk, hall⟩ := hrel
        by_cases hlt : k < A.length
        · obtain ⟨x, hx⟩ : ∃ x, A[k]? = some x := ⟨A[k], List.getElem?_eq_getElem hlt⟩
          obtain ⟨b, off, rfl, hc⟩ := hcell k x hx
          have HX : Hid _ := hx
          clear hx hcell hcell'
          by_cases x1 : x.size ≤ 1048576
          · by_cases x2 : zz + x.size ≤ 1048576
            · have HA : Hid _ := all_snoc HX.out hall.out x1
              clear hall HX
              go_wp2
              go_round
              case rel => exact ⟨zz + x.size, k + 1, by go_num, x2, by go_num, by omega, HA⟩
              case measure => simp [RowKit.intOf]; omega
            · clear hall HX
              go_wp2
              go_ret
              exact ⟨Within.no, rfl⟩
          · clear hall HX
            go_wp2
            go_ret
            exact ⟨Within.no, rfl⟩
        · have hk' : k = A.length := by omega
          subst hk'
          clear hcell
          have HA : Hid (∀ x ∈ A, x.size ≤ 1048576) := fun x hx => hall.out x (by rw [List.take_length]; exact hx)
          clear hall
          by_cases b3 : B.length ≤ 1048576
          · by_cases b4 : zz + B.length ≤ 1048576
            · go_wp2
              go_loop [7, 9] (fun z j => ∃ (zz k : Nat), z = .int .i64 zz ∧ zz ≤ 1048576 ∧ j = .int .i64 k ∧ k ≤ B.length ∧ Hid (∀ x ∈ B.take k, x.size ≤ 1048576)) (fun _ j => B.length - (RowKit.intOf j).toNat)
              case atStart => exact ⟨zz + B.length, 0, by simp, b4, rfl, Nat.zero_le _, fun x hx => by simp at hx⟩
              case round =>
                obtain ⟨zz', k, rfl, hzz', rfl, hk', hall'⟩ := hrel
                by_cases hlt' : k < B.length
                · obtain ⟨x, hx⟩ : ∃ x, B[k]? = some x := ⟨B[k], List.getElem?_eq_getElem hlt'⟩
                  obtain ⟨b, off, rfl, hc⟩ := hcell' k x hx
                  have HX : Hid _ := hx
                  clear hx hcell'
                  by_cases x1 : x.size ≤ 1048576
                  · by_cases x2 : zz' + x.size ≤ 1048576
                    · have HA' : Hid _ := all_snoc HX.out hall'.out x1
                      clear hall' HX
                      go_wp2
                      go_round
                      case rel => exact ⟨zz' + x.size, k + 1, by go_num, x2, by go_num, by omega, HA'⟩
                      case measure => simp [RowKit.intOf]; omega
                    · clear hall' HX
                      go_wp2
                      go_ret
                      exact ⟨Within.no, rfl⟩
                  · clear hall' HX
                    go_wp2
                    go_ret
                    exact ⟨Within.no, rfl⟩
                · have hk2 : k = B.length := by omega
                  subst hk2
                  clear hcell'
                  have HB : Hid (∀ x ∈ B, x.size ≤ 1048576) := fun x hx => hall'.out x (by rw [List.take_length]; exact hx)
                  clear hall'
                  go_wp2
                  go_ret
                  exact ⟨Within.yes ⟨b1, ⟨by omega, HA.out⟩, b3, HB.out⟩, rfl⟩
            · clear hcell'
              go_wp2
              go_ret
              exact ⟨Within.no, rfl⟩
          · clear hcell'
            go_wp2
            go_ret
            exact ⟨Within.no, rfl⟩
    · clear hcell hcell'
      by_cases b3 : A.length ≤ 1048576
      · go_enter Tryd.func5, Tryd.ntmps5
        go_wp2
        go_ret
        exact ⟨Within.no, rfl⟩
      · go_enter Tryd.func5, Tryd.ntmps5
        go_wp2
        go_ret
        exact ⟨Within.no, rfl⟩
  · clear hcell hcell'
    go_enter Tryd.func5, Tryd.ntmps5
    go_wp2
    go_ret
    exact ⟨Within.no, rfl⟩

end Go.Proofs.Qxb6616414aDoor
