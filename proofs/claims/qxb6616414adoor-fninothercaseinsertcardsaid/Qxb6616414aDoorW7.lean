/-
  The laws' bounds on what came in.
-/
import Derived.Test.Qxb6616414aDoorW6
namespace Go.Proofs.Qxb6616414aDoor
open Go.RowKit Go.Shelf

/-- a slice of strings that came in -/
def ArgS (w : World) (v : Value) (L : List ByteArray) : Prop :=
  (v = .slice none 0 0 ∧ L = []) ∨ (L = [] ∧ ∃ ad c, v = .slice (some ad) 0 c) ∨ ∃ b off c, v = .slice (some ⟨b, off, none⟩) L.length c ∧ L.length ≤ c ∧ c ≤ maxLen ∧ ∀ (j : Nat) x, L[j]? = some x → w.cell? ⟨b, off + j, none⟩ = some (.string x)
theorem ArgS.len {w : World} {v : Value} {L : List ByteArray} (h : ArgS w v L) : ∃ ad c, v = .slice ad L.length c ∧ L.length ≤ maxLen := by
  rcases h with ⟨rfl, rfl⟩ | ⟨rfl, ad, c, rfl⟩ | ⟨b, off, c, rfl, h1, h2, _⟩
  · exact ⟨_, _, rfl, by decide⟩
  · exact ⟨_, _, rfl, by decide⟩
  · exact ⟨_, _, rfl, by omega⟩

/-- the bounds on a name and a list -/
def Bd (name : ByteArray) (L : List ByteArray) : Prop := name.size ≤ 1048576 ∧ L.length ≤ 1048576 ∧ ∀ x ∈ L, x.size ≤ 1048576

/-- a yes that says p -/
def Within (p : Prop) (e : Ending) : Prop := ∃ b : Bool, e = .returned (.bool b) ∧ (b = true → p)
theorem Within.no {p : Prop} : Within p (.returned (.bool false)) := ⟨false, rfl, fun h => by cases h⟩
theorem Within.yes {p : Prop} (h : p) : Within p (.returned (.bool true)) := ⟨true, rfl, fun _ => h⟩

set_option maxHeartbeats 2000000 in
set_option maxRecDepth 100000 in
theorem bytes9_any (name : ByteArray) (v : Value) (L : List ByteArray) (i : Int) (w : World) (h : ArgS w v L) (hn : name.size ≤ maxLen) :
    Calls Tryd.prog 9 #[.string name, v, .int .i64 i] w fun e w' => Within (Bd name L) e ∧ w' = w := by
  unfold maxLen at hn
  by_cases b1 : name.size ≤ 1048576
  · by_cases b2 : name.size + L.length ≤ 1048576
    · obtain ⟨ad, c, rfl, hm⟩ := h.len
      have hcell : ∀ (j : Nat) x, L[j]? = some x → ∃ b off, ad = some ⟨b, off, none⟩ ∧ w.cell? ⟨b, off + j, none⟩ = some (.string x) := fun j x hx => by
        rcases h with ⟨_, rfl⟩ | ⟨rfl, _⟩ | ⟨b, off, c', e, _, _, hc⟩
        · simp at hx
        · simp at hx
        · cases e
          exact ⟨b, off, rfl, hc j x hx⟩
      clear h
      go_enter Tryd.func9, Tryd.ntmps9
      go_wp2
      go_loop [7, 8] (fun z j => ∃ (zz k : Nat), z = .int .i64 zz ∧ zz ≤ 1048576 ∧ j = .int .i64 k ∧ k ≤ L.length ∧ Hid (∀ x ∈ L.take k, x.size ≤ 1048576)) (fun _ j => L.length - (RowKit.intOf j).toNat)
      case atStart => exact ⟨name.size + L.length, 0, by simp, b2, rfl, Nat.zero_le _, fun x hx => by simp at hx⟩
      case round =>
        obtain ⟨zz, k, rfl, hzz, rfl, hk, hall⟩ := hrel
        by_cases hlt : k < L.length
        · obtain ⟨x, hx⟩ : ∃ x, L[k]? = some x := ⟨L[k], List.getElem?_eq_getElem hlt⟩
          obtain ⟨b, off, rfl, hc⟩ := hcell k x hx
          have HX : Hid _ := hx
          clear hx hcell
          by_cases x1 : x.size ≤ 1048576
          · by_cases x2 : zz + x.size ≤ 1048576
            · have hall2 : ∀ y ∈ L.take (k + 1), y.size ≤ 1048576 := by
                intro y hy
                rw [List.take_add_one, HX.out] at hy
                rcases List.mem_append.1 hy with hy | hy
                · exact hall.out y hy
                · simp at hy
                  subst hy
                  exact x1
              have HA : Hid _ := hall2
              clear hall2 hall HX
              go_wp2
              go_round
              case rel => exact ⟨zz + x.size, k + 1, by go_num, x2, by go_num, by omega, HA⟩
              case measure => simp [RowKit.intOf]; omega
            · clear hall HX
              go_wp2
              go_ret
              exact ⟨Within.no, rfl⟩
          · clear hall HX
            go_wp2
            go_ret
            exact ⟨Within.no, rfl⟩
        · have hk' : k = L.length := by omega
          subst hk'
          clear hcell
          have HA : Hid (∀ x ∈ L, x.size ≤ 1048576) := fun x hx => hall.out x (by rw [List.take_length]; exact hx)
          clear hall
          go_wp2
          go_ret
          exact ⟨Within.yes ⟨b1, by omega, HA.out⟩, rfl⟩
    · obtain ⟨ad, c, rfl, hm⟩ := h.len
      unfold maxLen at hm
      clear h
      by_cases b3 : L.length ≤ 1048576
      · go_enter Tryd.func9, Tryd.ntmps9
        go_wp2
        go_ret
        exact ⟨Within.no, rfl⟩
      · go_enter Tryd.func9, Tryd.ntmps9
        go_wp2
        go_ret
        exact ⟨Within.no, rfl⟩
  · clear h
    go_enter Tryd.func9, Tryd.ntmps9
    go_wp2
    go_ret
    exact ⟨Within.no, rfl⟩

end Go.Proofs.Qxb6616414aDoor
