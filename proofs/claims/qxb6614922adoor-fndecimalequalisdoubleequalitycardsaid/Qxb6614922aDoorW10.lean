/-
  The two shims and the comparison of decimals.
-/
import Derived.Test.Qxb6614922aDoorW9
import Derived.Deep.QuietTactic
namespace Go.Proofs.Qxb6614922aDoor
open Go.RowKit

/-- a slice that shows these bytes -/
def Shows (w : World) (v : Value) (L : List UInt8) : Prop := ∃ g cap, v = .slice (some ⟨g, 0, none⟩) L.length cap ∧ ∀ (j : Nat) x, L[j]? = some x → w.cell? ⟨g, j, none⟩ = some (.int .u8 (x.toNat : Int))
theorem Shows.below {w w' : World} {v : Value} {L : List UInt8} (h : Shows w v L) (hb : Below w.heap.size w w') : Shows w' v L := by
  obtain ⟨g, cap, e, hc⟩ := h
  exact ⟨g, cap, e, fun j x hx => cell_stays (hc j x hx) hb⟩
theorem Own.shows {B : Nat} {w : World} {v : Value} {L : List UInt8} (h : Own B w v L) (hL : 1 ≤ L.length) : Shows w v L := by
  obtain ⟨g, cap, e, _, _, _, hc, _⟩ := h.open hL
  exact ⟨g, cap, e, hc⟩
theorem Shows.conv {w : World} {v : Value} {L : List UInt8} (h : Shows w v L) : (convert 23 9 v).run Tryd.prog w = .ok (.string (strOfNums (nums L))) w := by
  obtain ⟨g, cap, rfl, hc⟩ := h
  refine run_convert_bytes_arg (P := Tryd.prog) w 23 5 Tryd.underlying23 Tryd.underlying5 g 0 L.length cap (nums L) (by simp [nums]) (fun i hi => ?_) 9 Tryd.underlying9
  obtain ⟨x, hx⟩ : ∃ x, L[i]? = some x := ⟨_, List.getElem?_eq_getElem hi⟩
  rw [Nat.zero_add, nums_getD _ i x hx]
  exact hc i x hx

set_option maxHeartbeats 2000000 in
set_option maxRecDepth 100000 in
theorem zzshort_any (b : Nat) (h1 : 1 ≤ b) (h2 : b < 9218868437227405312) (w : World) (hE : Env w) (hw : 6 < w.heap.size) :
    Calls Tryd.prog 6 #[.float .f64 b] w fun e w' => ∃ v, e = .returned (.tuple #[v, .int .i64 (Pd.ptB b)]) ∧ Shows w' v (Pd.digs (Pd.dB b).1) ∧ Below w.heap.size w w' := by
  obtain ⟨d1, d2⟩ := Pd.d_bounds h1 h2
  obtain ⟨-, g2, g3⟩ := Pd.digs_len d1 d2
  have hcall := shortest_any b h1 h2 w hE hw
  generalize Pd.digs (Pd.dB b).1 = T at *
  generalize Pd.ptB b = pt at *
  clear hE d1 d2
  go_enter Tryd.func6, Tryd.ntmps6
  go_wp2_with fail
  refine hcall.mono ?_
  rintro e w1 ⟨v, rfl, hO, hb⟩
  clear hcall
  have hS := hO.shows g2
  obtain ⟨g, cap, rfl, hc⟩ := hS
  have hb2 := hb.alloc hb.size (.cells #[.slice (some ⟨g, 0, none⟩) T.length cap, .int .i64 pt] 52)
  have hb3 := (Below.refl w1.heap.size w1).alloc (Nat.le_refl _) (.cells #[.slice (some ⟨g, 0, none⟩) T.length cap, .int .i64 pt] 52)
  have HB2 : Hid _ := hb2
  have HB3 : Hid _ := hb3
  clear hb2 hb3 hO
  go_wp2_with fail
  go_quiet (fail)
  go_wp2
  go_ret2
  exact ⟨_, rfl, ⟨g, cap, rfl, fun j x hx => by exact cell_stays (hc j x hx) (below_drewN HB3.out _)⟩, below_drewN HB2.out _⟩

set_option maxHeartbeats 2000000 in
set_option maxRecDepth 100000 in
theorem equal_any (v1 v2 : Value) (p1 p2 : Int) (L1 L2 : List UInt8) (w : World) (h1 : Shows w v1 L1) (h2 : Shows w v2 L2) :
    Calls Tryd.prog 22 #[.agg #[v1, .int .i64 p1], .agg #[v2, .int .i64 p2]] w fun e w' => e = .returned (.bool (decide (p1 = p2) && L1 == L2)) ∧ Below w.heap.size w w' := by
  obtain ⟨g, cap, rfl, hc⟩ := h1
  obtain ⟨g', cap', rfl, hc'⟩ := h2
  go_enter Tryd.func22, Tryd.ntmps22
  by_cases hp : p1 = p2
  · subst hp
    have hbb := ((Below.refl w.heap.size w).alloc (Nat.le_refl _) (.cells #[.slice (some ⟨g, 0, none⟩) L1.length cap, .int .i64 p1] 52)).alloc (by simp) (.cells #[.slice (some ⟨g', 0, none⟩) L2.length cap', .int .i64 p1] 52)
    have hS1 := Shows.conv (Shows.below ⟨g, cap, rfl, hc⟩ hbb)
    have hS2 := Shows.conv (Shows.below ⟨g', cap', rfl, hc'⟩ hbb)
    have hcall := Tryd.bytes_Equal _ _ _ _ _ hS1 hS2
    rw [nums_bytes, nums_bytes] at hcall
    have HB : Hid _ := hbb
    clear hS1 hS2 hbb hc hc'
    go_wp2_with fail
    refine hcall.mono ?_
    rintro e w1 ⟨rfl, hw1⟩
    rw [hw1]
    clear hcall
    go_wp2
    go_ret
    exact ⟨by simp, HB.out⟩
  · have hq : (p1 == p2) = false := by simpa using hp
    have hdp : decide (p1 = p2) = false := by simpa using hp
    have HD : Hid _ := hdp
    clear hdp hp
    go_wp2
    go_ret
    exact ⟨by rw [HD.out]; rfl, ((Below.refl w.heap.size w).alloc (Nat.le_refl _) _).alloc (by simp) _⟩

set_option maxHeartbeats 2000000 in
set_option maxRecDepth 100000 in
theorem zzequal_any (v1 v2 : Value) (p1 p2 : Int) (L1 L2 : List UInt8) (w : World) (h1 : Shows w v1 L1) (h2 : Shows w v2 L2) :
    Calls Tryd.prog 7 #[v1, .int .i64 p1, v2, .int .i64 p2] w fun e w' => e = .returned (.bool (decide (p1 = p2) && L1 == L2)) ∧ Below w.heap.size w w' := by
  have hcall := equal_any v1 v2 p1 p2 L1 L2 w h1 h2
  obtain ⟨g, cap, rfl, hc⟩ := h1
  obtain ⟨g', cap', rfl, hc'⟩ := h2
  generalize (decide (p1 = p2) && L1 == L2) = r at *
  clear hc hc'
  go_enter Tryd.func7, Tryd.ntmps7
  go_wp2_with fail
  refine hcall.mono ?_
  rintro e w1 ⟨rfl, hb⟩
  go_wp2
  go_ret
  exact ⟨rfl, hb⟩
end Go.Proofs.Qxb6614922aDoor
