/-
  THE TIED CARD of FnDecimalEqualIsDoubleEquality, proved.
-/
import Derived.Test.Qxb6614922aDoorW11
import Derived.Test.Qxb6614922aDoorLaid
import Derived.Test.Qxb6614922aDoorCards
import Derived.Test.Qxb6614922aDoorTie
import Derived.ProofKit
import Derived.OpenShut
import Derived.LaidMore
import Derived.Carry
import Derived.SevenTiedAt
import Derived.Stop.Joined
import Derived.SizedLaws
import Derived.WideShapes
namespace Go.Proofs.Qxb6614922aDoor
open Go.ChangeShapes Go.WideShapes Go.ChangeAt Go.RowKit Go.Lib Go.Shelf
set_option maxRecDepth 100000

theorem own : ownKnob Tryd.prog.godebug = none := by kernel_rfl

section
variable {H : Type} {enc : TypeId × Value → H} {P : Program} {w : World} {base : Nat} {spare : Nat → Bool} {held : Bool}
theorem okWide_float {r : Reach} {b0 : Nat} {t : TypeId} {k : FloatKind} {v : Value} (ht : P.underlying t = some (.float k)) (h : Value.okWide P w r b0 t v) : ∃ n, v = .float k n := by
  simp only [Value.okWide, ht, Cell.okWide] at h
  cases v <;> simp_all [Cell.ok]
theorem trod_float {fuel : Nat} {t : TypeId} {k : FloatKind} {cs : List Value} {x : DataW H × List MemPlace} (ht : P.underlying t = some (.float k)) (h : DataW.trod enc P w base spare held fuel t cs = some x) : ∃ n, cs = [.float k n] ∧ x = (.lit (.float k n), []) ∧ (Lit.float k n).wf = true := by
  cases fuel with
  | zero => simp [DataW.trod] at h
  | succ n =>
    unfold DataW.trod at h
    rw [ht] at h
    split at h <;> simp_all
theorem open_float {r : Reach} {b0 : Nat} {t : TypeId} {k : FloatKind} {v : Value} {d : DataW H} {ps : List MemPlace} (ht : P.underlying t = some (.float k)) (hval : Value.okWide P w r b0 t v) (hd : DataW.Trod enc P w base spare held t v d ps) :
    ∃ n, v = .float k n ∧ d = .lit (.float k n) ∧ ps = [] ∧ (Lit.float k n).wf = true := by
  obtain ⟨n, rfl⟩ := okWide_float ht hval
  obtain ⟨fuel, hf⟩ := hd
  obtain ⟨n', h, hx, hw⟩ := trod_float ht hf
  simp [Value.cells] at h
  subst h
  simp only [Prod.mk.injEq] at hx
  exact ⟨n, rfl, hx.1, hx.2, hw⟩
theorem shut_float {t : TypeId} {k : FloatKind} {n : Nat} (ht : P.underlying t = some (.float k)) (hw : (Lit.float k n).wf = true) : DataW.Trod enc P w base spare held t (.float k n) (.lit (.float k n)) [] :=
  ⟨1, by simp [DataW.trod, Value.cells, ht, hw]⟩
end

theorem lifted (os : Os) (started : os.Started) (H : Type) (enc : TypeId × Value → H) :
    ReturnsInHanded {} Tryd.checked os 3 .any (fun w args => (Rows.fnDecimalEqualIsDoubleEqualitySpec.pre enc Tryd.prog Tryd.f3 Rows.fnDecimalEqualIsDoubleEqualityRow.domain false w args ∧ laidMetH Tryd.prog Rows.fnDecimalEqualIsDoubleEqualityRow.laid w) ∧ sizedMet enc Tryd.prog Tryd.f3 (OpenSpec.ofChange Rows.fnDecimalEqualIsDoubleEqualitySpec) false w args)
      (Rows.fnDecimalEqualIsDoubleEqualitySpec.post enc Tryd.prog Tryd.f3 false true false false) := by
  refine returnsInHanded_of_change_and (C := Tryd.checked) (X := fun w _ => laidMetH Tryd.prog Rows.fnDecimalEqualIsDoubleEqualityRow.laid w) (fun _ _ _ hh h => h.of_heap hh) own started (by kernel_rfl) Tryd.func3
    (ChangeSpec.witness_shaped (enc := enc) (C := Tryd.checked) (os := os) (X := fun w _ => laidMetH Tryd.prog Rows.fnDecimalEqualIsDoubleEqualityRow.laid w) false (World.laidAll Tryd.prog os Rows.fnDecimalEqualIsDoubleEqualityRow.laid) #[.float .f64 0, .float .f64 0] 8 (World.laidAll_os _ _ _)
      (wit_shaped os _) (by kernel_rfl) (by kernel_rfl) (by kernel_rfl)
      (by rw [MakeChecks.laidMetH_plain _ _ _ (by kernel_rfl)]; exact wit_laid os _)) ?_
  intro W base args ds gs before hval0 hW hc _ hL _
  have hval : ∀ (j : Nat) t v, Tryd.f3.params[j]? = some t → args[j]? = some v → Value.okWide Tryd.prog W .any base t v := hval0
  have hE : Env W := env_of W (by rw [MakeChecks.laidMetH_plain _ _ _ (by kernel_rfl)] at hL; exact hL)
  have hW' := hW
  obtain ⟨p, q, hA0, hV, rfl, _, _⟩ := hW
  have hA : DataW.TrodAll enc Tryd.prog W 0 (fun _ => true) true Tryd.f3.params.toList args.toList ds p := hA0
  rw [Tryd.params3] at hA hval
  obtain ⟨v0, r0, d0, e0, p0, q0, ha0, rfl, rfl, h0, hA⟩ := trodAll_cons hA
  obtain ⟨v1, r1, d1, e1, p1, q1, rfl, rfl, rfl, h1, hA⟩ := trodAll_cons hA
  obtain ⟨rfl, rfl, rfl⟩ := trodAll_nil hA
  have hargs : args = #[v0, v1] := by cases args; simp_all
  subst hargs
  obtain ⟨rfl, rfl⟩ := trodVars_none hV
  obtain ⟨x, rfl, rfl, rfl, w0⟩ := open_float Tryd.underlying22 (hval 0 22 v0 rfl rfl) h0
  obtain ⟨y, rfl, rfl, rfl, w1⟩ := open_float Tryd.underlying22 (hval 1 22 v1 rfl rfl) h1
  clear hA0 hval0
  simp only [List.append_nil] at hW'
  have hsz : 6 < W.heap.size := by
    have := World.block_lt_of_cell? W _ (hE.pow 0 (by decide)).1
    exact this
  have b0 : x < 18446744073709551616 := by simpa [Lit.wf] using w0
  have b1 : y < 18446744073709551616 := by simpa [Lit.wf] using w1
  refine (law_any x y b0 b1 W hE hsz).mono fun e W' ⟨he, hbel⟩ => ?_
  subst he
  refine ⟨_, rfl, ⟨_, _, _, [], [] ++ ([] ++ []), [], hW', ?_, ?_, ?_, hbel.frame _, fun h => by cases h⟩⟩
  · exact trodAll_mk1 (shut_bool Tryd.underlying4 _)
  · exact trodAll_cons_mk (shut_float Tryd.underlying22 w0) (trodAll_cons_mk (shut_float Tryd.underlying22 w1) trodAll_mk0)
  · rfl

theorem holds : Rows.FnDecimalEqualIsDoubleEqualitySaid :=
  OpenClaim.holds_of_wide 3 Tryd.f3 rfl rfl rfl rfl rfl rfl rfl ⟨rfl, rfl, rfl, rfl, rfl⟩ rfl rfl rfl rfl rfl (by kernel_rfl) Tryd.func3 (by kernel_rfl)
    (of_decide_eq_true (by kernel_rfl)) (by unfold Func.isWrapper; first | (rw [if_pos (by decide +kernel)]; kernel_rfl) | (rw [if_neg (by decide +kernel)]; exact ⟨rfl, rfl⟩))
    (fun os started H enc _ => lifted os started H enc)

theorem proved : Rows.FnDecimalEqualIsDoubleEqualityCardSaid :=
  Claim7.holds_tied_plain_at .later [] [.data, .data, .data, .data, .sentinel, .sentinel, .pinned, .pinned] true (true, "390ea42f71deb45d2a2eed31eaeb64f62056e1812627ddd5c772083f0af198da") true holds (fun _ h => by cases h) (by kernel_rfl) (fun _ h => by cases h) fnDecimalEqualIsDoubleEquality_row_tie rfl ⟨rfl, rfl⟩ (by kernel_rfl) rfl
    (fun f fn hf hfn => by
      obtain rfl : f = 3 := Option.some.inj ((show Tryd.prog.funcNamed Rows.fnDecimalEqualIsDoubleEqualityRow.func = some 3 by kernel_rfl).symm.trans hf) |>.symm
      obtain rfl : fn = Tryd.f3 := (Option.some.inj (Tryd.func3.symm.trans hfn)).symm
      exact ⟨by kernel_rfl, fun j t ht => by
        rw [Tryd.params3] at ht
        have hm : t ∈ [22, 22] := by simpa using Array.mem_of_getElem? ht
        have hall : ([22, 22].all fun u => !Tryd.prog.wantsStandIn u) = true := by kernel_rfl
        exact (show Tryd.prog.wantsStandIn t = false by simpa using List.all_eq_true.1 hall t hm)⟩)
    (by kernel_rfl)

#print axioms proved
end Go.Proofs.Qxb6614922aDoor
